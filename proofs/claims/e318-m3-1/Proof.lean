import JvmDerived
import JvmDerived.Pilot.@@N@@Statement
import JvmDerived.Pilot.@@N@@Code
set_option linter.unusedVariables false
set_option linter.unusedSimpArgs false
namespace Jvm.RoadKit
open Sem ClassFile Op Lib Jvm.Stand Jvm.Free Jvm.LawKit
section New
variable {p : Program} {l : Launch} {e : Env} {R : Room} {s : State} {m : MethodId} {args : Array Value} {below : List Frame} {meth : Method} {c : Code} {T : State} {locs : List Loc} {cells slots : Nat}
theorem retI (X : Stand p l e R s m args below meth c T locs cells slots) (hx : p.tables.exec = Jvm.exec) {pc : Nat} {Ls : Array Slot} {z : Int32} {rest : List Value} (hret : meth.sig.returnType = some .int) (hd : decode c.code pc = .ok (.ireturn, 1)) {fs : List Frame}
    (hl : ∀ (f : JFrame) (acts : List Action), f.method = m → f.locked = none → f.entered = [] → (doReturn e (T.setTop f) acts (some (.int z))).1 = T.setFrames fs) : Steps p.tables e below (T.setTop (mkF m pc Ls (.int z :: rest))) (T.setFrames fs) :=
  retOut X hx hret rfl (Or.inl ⟨rfl, Or.inl rfl, z, rfl⟩) hd hl
theorem retL (X : Stand p l e R s m args below meth c T locs cells slots) (hx : p.tables.exec = Jvm.exec) {pc : Nat} {Ls : Array Slot} {z : Int64} {rest : List Value} (hret : meth.sig.returnType = some .long) (hd : decode c.code pc = .ok (.lreturn, 1)) {fs : List Frame}
    (hl : ∀ (f : JFrame) (acts : List Action), f.method = m → f.locked = none → f.entered = [] → (doReturn e (T.setTop f) acts (some (.long z))).1 = T.setFrames fs) : Steps p.tables e below (T.setTop (mkF m pc Ls (.long z :: rest))) (T.setFrames fs) :=
  retOut X hx hret rfl (Or.inr (Or.inl ⟨rfl, rfl, z, rfl⟩)) hd hl
theorem retA (X : Stand p l e R s m args below meth c T locs cells slots) (hx : p.tables.exec = Jvm.exec) {pc : Nat} {Ls : Array Slot} {w : Value} {t : FieldType} {rest : List Value} (hret : meth.sig.returnType = some t) (ht : t.isReference = true) (hv : w.isRef = true) (hd : decode c.code pc = .ok (.areturn, 1)) {fs : List Frame}
    (hl : ∀ (f : JFrame) (acts : List Action), f.method = m → f.locked = none → f.entered = [] → (doReturn e (T.setTop f) acts (some w)).1 = T.setFrames fs) : Steps p.tables e below (T.setTop (mkF m pc Ls (w :: rest))) (T.setFrames fs) :=
  retOut X hx hret (by cases w <;> first | (simp [Value.isRef] at hv; done) | (cases t <;> first | rfl | (simp [FieldType.isReference] at ht; done))) (Or.inr (Or.inr (Or.inr (Or.inr ⟨rfl, ht, hv⟩)))) hd hl
/-- from here the run comes to an end of which P holds -/
def Go (tb : Tables) (e : Env) (below : List Frame) (P : State → Outcome → Prop) (A : State) : Prop := ∃ s₂ o, Steps tb e below A s₂ ∧ P s₂ o
theorem Go.via {tb : Tables} {e : Env} {below : List Frame} {P : State → Outcome → Prop} {A B : State} (st : ∀ t, Steps tb e below B t → Steps tb e below A t) (g : Go tb e below P B) : Go tb e below P A := by
  obtain ⟨s2, o, h, r⟩ := g
  exact ⟨s2, o, st _ h, r⟩
/-- what a contract says of the end -/
def PQ (s : State) (below : List Frame) (Q : Option Value → Heap → List Loc → Prop) (k n : Nat) (s₂ : State) (o : Outcome) : Prop := s₂.status = .running ∧ Ended s₂ below o ∧ ∃ v L, o = .returned v ∧ Q v s₂.heap L ∧ FrameEnd s o s₂ L k n
theorem Go.leave (X : Stand p l e R s m args below meth c T locs cells slots) (hlk : meth.locks = false) {v : Option Value} (hv : meth.sig.returnType = none → v = none) {A : State} {Q : Option Value → Heap → List Loc → Prop} {k n : Nat}
    (last : ∀ fs : List Frame, (∀ (f : JFrame) (acts : List Action), f.method = m → f.locked = none → f.entered = [] → (doReturn e (T.setTop f) acts v).1 = T.setFrames fs) → Steps p.tables e below A (T.setFrames fs)) (hk : cells ≤ k) (hn : slots ≤ n) (q : Q v T.heap locs) : Go p.tables e below (PQ s below Q k n) A := by
  obtain ⟨fs, hr, hrun, hended, hW, hsame⟩ := X.leave (v := v) hv hlk
  exact ⟨_, _, last fs hr, hrun, hended, _, _, rfl, q, ⟨_, rfl⟩, hW, hsame.mono hk hn⟩
end New
end Jvm.RoadKit
namespace Jvm.Pilot.@@N@@
open Jvm Jvm.ClassFile Sem Op Lib Jvm.Free Jvm.Stand Jvm.LawKit Jvm.RoadKit Bundle Jvm.Pilot.@@N@@.Jvm.D

theorem pd0 : parseMethodDescriptor "(I)Lcom/example/stylesheet_processor/stylesheetprocessor/model/AtomicType;" = some ⟨[.int], some (.object "com/example/stylesheet_processor/stylesheetprocessor/model/AtomicType")⟩ := by decide +kernel
theorem pd1 : parseMethodDescriptor "(Lcom/example/stylesheet_processor/stylesheetprocessor/model/AtomicType;)Z" = some ⟨[(.object "com/example/stylesheet_processor/stylesheetprocessor/model/AtomicType")], some .boolean⟩ := by decide +kernel
def PK (w0 w1 w2 w3 w4 w5 : Nat) (i : Int32) : Nat := if i = 0 then w0 else if i = 1 then w1 else if i = 2 then w2 else if i = 3 then w3 else if i = 4 then w4 else w5
def Six (i : Int32) : Prop := i = 0 ∨ i = 1 ∨ i = 2 ∨ i = 3 ∨ i = 4 ∨ i = 5
def IX (x : Int32) : Int32 := (x &&& (2147483647 : Int32)) % (6 : Int32)
theorem own_six (x : Int32) : Six (IX x) := by
  have h := c_and x (2147483647 : Int32) (by decide)
  have h2 := (c_irem (x &&& (2147483647 : Int32)) (6 : Int32) 6 rfl).1 h.1
  have h3 : (IX x).toInt = (x &&& (2147483647 : Int32)).toInt % 6 := h2
  have q : (IX x).toInt = 0 ∨ (IX x).toInt = 1 ∨ (IX x).toInt = 2 ∨ (IX x).toInt = 3 ∨ (IX x).toInt = 4 ∨ (IX x).toInt = 5 := by omega
  rcases q with q | q | q | q | q | q
  · exact Or.inl (Int32.toInt_inj.mp q)
  · exact Or.inr (Or.inl (Int32.toInt_inj.mp q))
  · exact Or.inr (Or.inr (Or.inl (Int32.toInt_inj.mp q)))
  · exact Or.inr (Or.inr (Or.inr (Or.inl (Int32.toInt_inj.mp q))))
  · exact Or.inr (Or.inr (Or.inr (Or.inr (Or.inl (Int32.toInt_inj.mp q)))))
  · exact Or.inr (Or.inr (Or.inr (Or.inr (Or.inr (Int32.toInt_inj.mp q)))))
theorem own_inj {w0 w1 w2 w3 w4 w5 : Nat} (hd : [w0, w1, w2, w3, w4, w5].Nodup) {i j : Int32} (hi : Six i) (hj : Six j) : PK w0 w1 w2 w3 w4 w5 i = PK w0 w1 w2 w3 w4 w5 j ↔ i = j := by
  simp only [List.nodup_cons, List.mem_cons, List.not_mem_nil, or_false, not_or, List.nodup_nil, and_true, not_false_eq_true] at hd
  obtain ⟨⟨a1, a2, a3, a4, a5⟩, ⟨b2, b3, b4, b5⟩, ⟨c3, c4, c5⟩, ⟨d4, d5⟩, e5⟩ := hd
  have k : ∀ u v : Nat, ¬ u = v → ¬ v = u := fun u v h q => h q.symm
  rcases hi with rfl | rfl | rfl | rfl | rfl | rfl <;> rcases hj with rfl | rfl | rfl | rfl | rfl | rfl <;> simp [PK, a1, a2, a3, a4, a5, b2, b3, b4, b5, c3, c4, c5, d4, d5, e5, k _ _ a1, k _ _ a2, k _ _ a3, k _ _ a4, k _ _ a5, k _ _ b2, k _ _ b3, k _ _ b4, k _ _ b5, k _ _ c3, k _ _ c4, k _ _ c5, k _ _ d4, k _ _ d5, k _ _ e5]
theorem own_eqr {args : Array Value} {first s : State} {oo : Option Outcome} {idx : List Nat} {t u : Term} {a : Addr} (h : (Cond.eq t u).value args first oo s idx = some true) (hu : u.eval args first oo idx s = some (.ref a)) : t.eval args first oo idx s = some (.ref a) := by
  obtain ⟨x, y, hx, hy, -, k2⟩ := cmp_v (Or.inl h)
  cases hu.symm.trans hy
  have hz := gotT (eq_R hx hy k2.2 rfl) h
  rw [hx, hz]
theorem d1_0 : decode method_2_code 0 = .ok (.iload_n 0, 1) := by decide +kernel
theorem d1_1 : decode method_2_code 1 = .ok (.ifCond .ne 7, 3) := by decide +kernel
theorem d1_4 : decode method_2_code 4 = .ok (.getstatic 7, 3) := by decide +kernel
theorem d1_7 : decode method_2_code 7 = .ok (.areturn, 1) := by decide +kernel
theorem d1_8 : decode method_2_code 8 = .ok (.iload_n 0, 1) := by decide +kernel
theorem d1_9 : decode method_2_code 9 = .ok (.iconst 1, 1) := by decide +kernel
theorem d1_10 : decode method_2_code 10 = .ok (.if_icmp .ne 7, 3) := by decide +kernel
theorem d1_13 : decode method_2_code 13 = .ok (.getstatic 13, 3) := by decide +kernel
theorem d1_16 : decode method_2_code 16 = .ok (.areturn, 1) := by decide +kernel
theorem d1_17 : decode method_2_code 17 = .ok (.iload_n 0, 1) := by decide +kernel
theorem d1_18 : decode method_2_code 18 = .ok (.iconst 2, 1) := by decide +kernel
theorem d1_19 : decode method_2_code 19 = .ok (.if_icmp .ne 7, 3) := by decide +kernel
theorem d1_22 : decode method_2_code 22 = .ok (.getstatic 16, 3) := by decide +kernel
theorem d1_25 : decode method_2_code 25 = .ok (.areturn, 1) := by decide +kernel
theorem d1_26 : decode method_2_code 26 = .ok (.iload_n 0, 1) := by decide +kernel
theorem d1_27 : decode method_2_code 27 = .ok (.iconst 3, 1) := by decide +kernel
theorem d1_28 : decode method_2_code 28 = .ok (.if_icmp .ne 7, 3) := by decide +kernel
theorem d1_31 : decode method_2_code 31 = .ok (.getstatic 19, 3) := by decide +kernel
theorem d1_34 : decode method_2_code 34 = .ok (.areturn, 1) := by decide +kernel
theorem d1_35 : decode method_2_code 35 = .ok (.iload_n 0, 1) := by decide +kernel
theorem d1_36 : decode method_2_code 36 = .ok (.iconst 4, 1) := by decide +kernel
theorem d1_37 : decode method_2_code 37 = .ok (.if_icmp .ne 7, 3) := by decide +kernel
theorem d1_40 : decode method_2_code 40 = .ok (.getstatic 22, 3) := by decide +kernel
theorem d1_43 : decode method_2_code 43 = .ok (.areturn, 1) := by decide +kernel
theorem d1_44 : decode method_2_code 44 = .ok (.getstatic 25, 3) := by decide +kernel
theorem d1_47 : decode method_2_code 47 = .ok (.areturn, 1) := by decide +kernel
theorem pn_1 : plainName "com/example/stylesheet_processor/stylesheetprocessor/model/AtomicTypeDerivesFromPinLaw" = true := by first | (simp [plainName, overriddenIn]; done) | decide +kernel
theorem ef_1 (m : MethodId) (x0 : Int32) : entryFrame m #[(.int x0)] 1 = mkF m 0 #[.val (.int x0)] [] := by first | (simp [entryFrame, mkF, argsToLocals, Value.category]; done) | rfl
def Q1 (Z : State) (i : Int32) (w0 : Addr) (w1 : Addr) (w2 : Addr) (w3 : Addr) (w4 : Addr) (w5 : Addr) (h0 : Heap) (n0 : Nat) (v : Option Value) (h : Heap) (L : List Loc) : Prop := v = some (.ref (PK w0 w1 w2 w3 w4 w5 i)) ∧ Fr n0 L ∧ h = h0
set_option maxRecDepth 65536 in
set_option maxHeartbeats 40000000 in
theorem rm1 (l : Launch) (Z : State) (a0 : Array Value) (hw : ∀ d ∈ tables_1, d.before a0 Z = true) (ws : List Jvm.Cond) (i : Int32) (w0 : Addr) (w1 : Addr) (w2 : Addr) (w3 : Addr) (w4 : Addr) (w5 : Addr) (h0 : Heap) (n0 : Nat) (Z0 : n0 ≤ h0.size) (S0 : Sta Z h0 "com/example/stylesheet_processor/stylesheetprocessor/model/AtomicType" "UNTYPED_ATOMIC" "Lcom/example/stylesheet_processor/stylesheetprocessor/model/AtomicType;" (.ref w0)) (S1 : Sta Z h0 "com/example/stylesheet_processor/stylesheetprocessor/model/AtomicType" "STRING" "Lcom/example/stylesheet_processor/stylesheetprocessor/model/AtomicType;" (.ref w1)) (S2 : Sta Z h0 "com/example/stylesheet_processor/stylesheetprocessor/model/AtomicType" "DOUBLE" "Lcom/example/stylesheet_processor/stylesheetprocessor/model/AtomicType;" (.ref w2)) (S3 : Sta Z h0 "com/example/stylesheet_processor/stylesheetprocessor/model/AtomicType" "DECIMAL" "Lcom/example/stylesheet_processor/stylesheetprocessor/model/AtomicType;" (.ref w3)) (S4 : Sta Z h0 "com/example/stylesheet_processor/stylesheetprocessor/model/AtomicType" "INTEGER" "Lcom/example/stylesheet_processor/stylesheetprocessor/model/AtomicType;" (.ref w4)) (S5 : Sta Z h0 "com/example/stylesheet_processor/stylesheetprocessor/model/AtomicType" "BOOLEAN" "Lcom/example/stylesheet_processor/stylesheetprocessor/model/AtomicType;" (.ref w5)) :
    MetFree l (⟨"com/example/stylesheet_processor/stylesheetprocessor/model/AtomicTypeDerivesFromPinLaw", "pick", "(I)Lcom/example/stylesheet_processor/stylesheetprocessor/model/AtomicType;"⟩ : MethodName) (head1 (Jvm.Cond.code (⟨"com/example/stylesheet_processor/stylesheetprocessor/model/AtomicTypeDerivesFromPinLaw", "pick", "(I)Lcom/example/stylesheet_processor/stylesheetprocessor/model/AtomicType;"⟩ : MethodName) method_2_code 1 (some (.object "com/example/stylesheet_processor/stylesheetprocessor/model/AtomicType")) :: ws) ({ frames := 0, cells := 0, slots := 0, locals := 0 } : Room)) (fun a_ U_ => a_ = #[(.int i)] ∧ Z.Warmed39 U_.vm ∧ U_.heap = h0) (fun _ _ _ _ _ => True) (fun _ U_ o_ V_ => ∃ v_ L_, o_ = .returned v_ ∧ Q1 Z i w0 w1 w2 w3 w4 w5 h0 n0 v_ V_.heap L_ ∧ FrameEnd U_ o_ V_ L_ ({ frames := 0, cells := 0, slots := 0, locals := 0 } : Room).cells ({ frames := 0, cells := 0, slots := 0, locals := 0 } : Room).slots) := by
  refine MetFree.of_bodySF (plainFor_of_name pn_1) hisR ?_
  intro p e s m args below meth c s₁ Bd hml0 hP hK
  obtain ⟨rfl, hZ, hh⟩ := hP
  have hx := Bd.exec
  have hby := Bd.bytes
  have hml : c.maxLocals = 1 := hml0
  have hown : s.vm.findClass "com/example/stylesheet_processor/stylesheetprocessor/model/AtomicTypeDerivesFromPinLaw" = some m.cls := findClass_of_methodNamed Bd.named
  have hnm := (name_of_methodNamed Bd.named Bd.method).1
  have hlk : meth.locks = false := BodyLoose.notSynchronized Bd
  have hrt := Bd.returns
  have X0 : Stand p l e ({ frames := 0, cells := 0, slots := 0, locals := 0 } : Room) s m #[(.int i)] below meth c s₁ [] 0 0 := Stand.of_body Bd
  have e0 : s₁.heap = h0 := by rw [← hh, Bd.state]; rfl
  have N0 := Fr.nil n0
  show Go p.tables e below (PQ s below (Q1 Z i w0 w1 w2 w3 w4 w5 h0 n0) 0 0) _
  refine Go.via (B := s₁.setTop (mkF m 0 #[.val (.int i)] [])) (fun t_ k_ => castTop (ef_1 m i) k_) ?_
  refine Go.via (B := s₁.setTop (mkF m 1 #[.val (.int i)] [(.int i)])) (fun t_ k_ => ?_) ?_
  · show Steps p.tables e below (s₁.setTop (mkF m 0 #[.val (.int i)] [])) t_
    refine XS.iloadN X0.here hx rfl (hb hby d1_0) rfl ?_
    show Steps p.tables e below (s₁.setTop (mkF m 1 #[.val (.int i)] [(.int i)])) t_
    exact k_
  by_cases hp0 : i = (0 : Int32)
  · refine Go.via (B := s₁.setTop (mkF m 4 #[.val (.int i)] [])) (fun t_ k_ => XS.ifNo X0.here hx rfl (hb hby d1_1) rfl (((if0 _ _).trans (teq hp0).2)) k_) ?_
    obtain ⟨T1, X1, e1, st1⟩ := getS2 X0 hx hZ hown (host := "") (Or.inl (hw _ (List.mem_of_getElem? (i := 5) rfl))) Via.refl e0 S0 (g := (mkF m 4 #[.val (.int i)] [])) rfl (hb hby d1_4)
    refine Go.via st1 ?_
    show Go p.tables e below _ (T1.setTop (mkF m 7 #[.val (.int i)] [(.ref w0)]))
    have hPK : PK w0 w1 w2 w3 w4 w5 i = w0 := by rw [PK, if_pos hp0]
    exact Go.leave X1 hlk (v := (some (.ref w0))) (fun h => by rw [hrt] at h; cases h) (fun fs hr => retA X1 hx hrt rfl rfl (hb hby d1_7) hr) (by decide) (by decide) (⟨by rw [hPK], N0, e1⟩)
  · refine Go.via (B := s₁.setTop (mkF m 8 #[.val (.int i)] [])) (fun t_ k_ => XS.ifYes X0.here hx rfl (pc0 := 1) (pc' := 8) rfl (hb hby d1_1) rfl (((if0 _ _).trans (feq hp0).2)) (by decide) (by decide) k_) ?_
    refine Go.via (B := s₁.setTop (mkF m 10 #[.val (.int i)] [(.int (1 : Int32)), (.int i)])) (fun t_ k_ => ?_) ?_
    · show Steps p.tables e below (s₁.setTop (mkF m 8 #[.val (.int i)] [])) t_
      refine XS.iloadN X0.here hx rfl (hb hby d1_8) rfl ?_
      show Steps p.tables e below (s₁.setTop (mkF m 9 #[.val (.int i)] [(.int i)])) t_
      refine XS.iconst X0.here hx rfl (hb hby d1_9) ?_
      show Steps p.tables e below (s₁.setTop (mkF m 10 #[.val (.int i)] [(.int (1 : Int32)), (.int i)])) t_
      exact k_
    by_cases hp1 : i = (1 : Int32)
    · refine Go.via (B := s₁.setTop (mkF m 13 #[.val (.int i)] [])) (fun t_ k_ => XS.icmpNo X0.here hx rfl (hb hby d1_10) rfl ((teq hp1).2) k_) ?_
      obtain ⟨T2, X2, e2, st2⟩ := getS2 X0 hx hZ hown (host := "") (Or.inl (hw _ (List.mem_of_getElem? (i := 19) rfl))) Via.refl e0 S1 (g := (mkF m 13 #[.val (.int i)] [])) rfl (hb hby d1_13)
      refine Go.via st2 ?_
      show Go p.tables e below _ (T2.setTop (mkF m 16 #[.val (.int i)] [(.ref w1)]))
      have hPK : PK w0 w1 w2 w3 w4 w5 i = w1 := by rw [PK, if_neg hp0, if_pos hp1]
      exact Go.leave X2 hlk (v := (some (.ref w1))) (fun h => by rw [hrt] at h; cases h) (fun fs hr => retA X2 hx hrt rfl rfl (hb hby d1_16) hr) (by decide) (by decide) (⟨by rw [hPK], N0, e2⟩)
    · refine Go.via (B := s₁.setTop (mkF m 17 #[.val (.int i)] [])) (fun t_ k_ => XS.icmpYes X0.here hx rfl (pc0 := 10) (pc' := 17) rfl (hb hby d1_10) rfl ((feq hp1).2) (by decide) (by decide) k_) ?_
      refine Go.via (B := s₁.setTop (mkF m 19 #[.val (.int i)] [(.int (2 : Int32)), (.int i)])) (fun t_ k_ => ?_) ?_
      · show Steps p.tables e below (s₁.setTop (mkF m 17 #[.val (.int i)] [])) t_
        refine XS.iloadN X0.here hx rfl (hb hby d1_17) rfl ?_
        show Steps p.tables e below (s₁.setTop (mkF m 18 #[.val (.int i)] [(.int i)])) t_
        refine XS.iconst X0.here hx rfl (hb hby d1_18) ?_
        show Steps p.tables e below (s₁.setTop (mkF m 19 #[.val (.int i)] [(.int (2 : Int32)), (.int i)])) t_
        exact k_
      by_cases hp2 : i = (2 : Int32)
      · refine Go.via (B := s₁.setTop (mkF m 22 #[.val (.int i)] [])) (fun t_ k_ => XS.icmpNo X0.here hx rfl (hb hby d1_19) rfl ((teq hp2).2) k_) ?_
        obtain ⟨T3, X3, e3, st3⟩ := getS2 X0 hx hZ hown (host := "") (Or.inl (hw _ (List.mem_of_getElem? (i := 17) rfl))) Via.refl e0 S2 (g := (mkF m 22 #[.val (.int i)] [])) rfl (hb hby d1_22)
        refine Go.via st3 ?_
        show Go p.tables e below _ (T3.setTop (mkF m 25 #[.val (.int i)] [(.ref w2)]))
        have hPK : PK w0 w1 w2 w3 w4 w5 i = w2 := by rw [PK, if_neg hp0, if_neg hp1, if_pos hp2]
        exact Go.leave X3 hlk (v := (some (.ref w2))) (fun h => by rw [hrt] at h; cases h) (fun fs hr => retA X3 hx hrt rfl rfl (hb hby d1_25) hr) (by decide) (by decide) (⟨by rw [hPK], N0, e3⟩)
      · refine Go.via (B := s₁.setTop (mkF m 26 #[.val (.int i)] [])) (fun t_ k_ => XS.icmpYes X0.here hx rfl (pc0 := 19) (pc' := 26) rfl (hb hby d1_19) rfl ((feq hp2).2) (by decide) (by decide) k_) ?_
        refine Go.via (B := s₁.setTop (mkF m 28 #[.val (.int i)] [(.int (3 : Int32)), (.int i)])) (fun t_ k_ => ?_) ?_
        · show Steps p.tables e below (s₁.setTop (mkF m 26 #[.val (.int i)] [])) t_
          refine XS.iloadN X0.here hx rfl (hb hby d1_26) rfl ?_
          show Steps p.tables e below (s₁.setTop (mkF m 27 #[.val (.int i)] [(.int i)])) t_
          refine XS.iconst X0.here hx rfl (hb hby d1_27) ?_
          show Steps p.tables e below (s₁.setTop (mkF m 28 #[.val (.int i)] [(.int (3 : Int32)), (.int i)])) t_
          exact k_
        by_cases hp3 : i = (3 : Int32)
        · refine Go.via (B := s₁.setTop (mkF m 31 #[.val (.int i)] [])) (fun t_ k_ => XS.icmpNo X0.here hx rfl (hb hby d1_28) rfl ((teq hp3).2) k_) ?_
          obtain ⟨T4, X4, e4, st4⟩ := getS2 X0 hx hZ hown (host := "") (Or.inl (hw _ (List.mem_of_getElem? (i := 8) rfl))) Via.refl e0 S3 (g := (mkF m 31 #[.val (.int i)] [])) rfl (hb hby d1_31)
          refine Go.via st4 ?_
          show Go p.tables e below _ (T4.setTop (mkF m 34 #[.val (.int i)] [(.ref w3)]))
          have hPK : PK w0 w1 w2 w3 w4 w5 i = w3 := by rw [PK, if_neg hp0, if_neg hp1, if_neg hp2, if_pos hp3]
          exact Go.leave X4 hlk (v := (some (.ref w3))) (fun h => by rw [hrt] at h; cases h) (fun fs hr => retA X4 hx hrt rfl rfl (hb hby d1_34) hr) (by decide) (by decide) (⟨by rw [hPK], N0, e4⟩)
        · refine Go.via (B := s₁.setTop (mkF m 35 #[.val (.int i)] [])) (fun t_ k_ => XS.icmpYes X0.here hx rfl (pc0 := 28) (pc' := 35) rfl (hb hby d1_28) rfl ((feq hp3).2) (by decide) (by decide) k_) ?_
          refine Go.via (B := s₁.setTop (mkF m 37 #[.val (.int i)] [(.int (4 : Int32)), (.int i)])) (fun t_ k_ => ?_) ?_
          · show Steps p.tables e below (s₁.setTop (mkF m 35 #[.val (.int i)] [])) t_
            refine XS.iloadN X0.here hx rfl (hb hby d1_35) rfl ?_
            show Steps p.tables e below (s₁.setTop (mkF m 36 #[.val (.int i)] [(.int i)])) t_
            refine XS.iconst X0.here hx rfl (hb hby d1_36) ?_
            show Steps p.tables e below (s₁.setTop (mkF m 37 #[.val (.int i)] [(.int (4 : Int32)), (.int i)])) t_
            exact k_
          by_cases hp4 : i = (4 : Int32)
          · refine Go.via (B := s₁.setTop (mkF m 40 #[.val (.int i)] [])) (fun t_ k_ => XS.icmpNo X0.here hx rfl (hb hby d1_37) rfl ((teq hp4).2) k_) ?_
            obtain ⟨T5, X5, e5, st5⟩ := getS2 X0 hx hZ hown (host := "") (Or.inl (hw _ (List.mem_of_getElem? (i := 25) rfl))) Via.refl e0 S4 (g := (mkF m 40 #[.val (.int i)] [])) rfl (hb hby d1_40)
            refine Go.via st5 ?_
            show Go p.tables e below _ (T5.setTop (mkF m 43 #[.val (.int i)] [(.ref w4)]))
            have hPK : PK w0 w1 w2 w3 w4 w5 i = w4 := by rw [PK, if_neg hp0, if_neg hp1, if_neg hp2, if_neg hp3, if_pos hp4]
            exact Go.leave X5 hlk (v := (some (.ref w4))) (fun h => by rw [hrt] at h; cases h) (fun fs hr => retA X5 hx hrt rfl rfl (hb hby d1_43) hr) (by decide) (by decide) (⟨by rw [hPK], N0, e5⟩)
          · refine Go.via (B := s₁.setTop (mkF m 44 #[.val (.int i)] [])) (fun t_ k_ => XS.icmpYes X0.here hx rfl (pc0 := 37) (pc' := 44) rfl (hb hby d1_37) rfl ((feq hp4).2) (by decide) (by decide) k_) ?_
            obtain ⟨T6, X6, e6, st6⟩ := getS2 X0 hx hZ hown (host := "") (Or.inl (hw _ (List.mem_of_getElem? (i := 23) rfl))) Via.refl e0 S5 (g := (mkF m 44 #[.val (.int i)] [])) rfl (hb hby d1_44)
            refine Go.via st6 ?_
            show Go p.tables e below _ (T6.setTop (mkF m 47 #[.val (.int i)] [(.ref w5)]))
            have hPK : PK w0 w1 w2 w3 w4 w5 i = w5 := by rw [PK, if_neg hp0, if_neg hp1, if_neg hp2, if_neg hp3, if_neg hp4]
            exact Go.leave X6 hlk (v := (some (.ref w5))) (fun h => by rw [hrt] at h; cases h) (fun fs hr => retA X6 hx hrt rfl rfl (hb hby d1_47) hr) (by decide) (by decide) (⟨by rw [hPK], N0, e6⟩)
theorem d2_0 : decode prog_23_method_7_code 0 = .ok (.aload_n 0, 1) := by decide +kernel
theorem d2_1 : decode prog_23_method_7_code 1 = .ok (.astore_n 2, 1) := by decide +kernel
theorem d2_2 : decode prog_23_method_7_code 2 = .ok (.aload_n 2, 1) := by decide +kernel
theorem d2_3 : decode prog_23_method_7_code 3 = .ok (.ifnull 16, 3) := by decide +kernel
theorem d2_6 : decode prog_23_method_7_code 6 = .ok (.aload_n 2, 1) := by decide +kernel
theorem d2_7 : decode prog_23_method_7_code 7 = .ok (.aload_n 1, 1) := by decide +kernel
theorem d2_8 : decode prog_23_method_7_code 8 = .ok (.if_acmp .eq 11, 3) := by decide +kernel
theorem d2_11 : decode prog_23_method_7_code 11 = .ok (.aload_n 2, 1) := by decide +kernel
theorem d2_12 : decode prog_23_method_7_code 12 = .ok (.getfield 45, 3) := by decide +kernel
theorem d2_15 : decode prog_23_method_7_code 15 = .ok (.astore_n 2, 1) := by decide +kernel
theorem d2_16 : decode prog_23_method_7_code 16 = .ok (.goto (-14), 3) := by decide +kernel
theorem d2_19 : decode prog_23_method_7_code 19 = .ok (.aload_n 2, 1) := by decide +kernel
theorem d2_20 : decode prog_23_method_7_code 20 = .ok (.ifnull 7, 3) := by decide +kernel
theorem d2_23 : decode prog_23_method_7_code 23 = .ok (.iconst 1, 1) := by decide +kernel
theorem d2_24 : decode prog_23_method_7_code 24 = .ok (.goto 4, 3) := by decide +kernel
theorem d2_27 : decode prog_23_method_7_code 27 = .ok (.iconst 0, 1) := by decide +kernel
theorem d2_28 : decode prog_23_method_7_code 28 = .ok (.ireturn, 1) := by decide +kernel
theorem pn_2 : plainName "com/example/stylesheet_processor/stylesheetprocessor/model/AtomicType" = true := by first | (simp [plainName, overriddenIn]; done) | decide +kernel
theorem ef_2 (m : MethodId) (x0 : Addr) (x1 : Addr) : entryFrame m #[(.ref x0), (.ref x1)] 3 = mkF m 0 #[.val (.ref x0), .val (.ref x1), .unset] [] := by first | (simp [entryFrame, mkF, argsToLocals, Value.category]; done) | rfl
def Q2a (Z : State) (a : Addr) (b : Addr) (h0 : Heap) (n0 : Nat) (v : Option Value) (h : Heap) (L : List Loc) : Prop := v = some (.int (if a = b then 1 else 0)) ∧ Fr n0 L ∧ h = h0
set_option maxRecDepth 65536 in
set_option maxHeartbeats 40000000 in
theorem rm2a (l : Launch) (Z : State) (a0 : Array Value) (hw : ∀ d ∈ tables_1, d.before a0 Z = true) (ws : List Jvm.Cond) (a : Addr) (b : Addr) (h0 : Heap) (n0 : Nat) (Z0 : n0 ≤ h0.size) (Fb : Fld Z h0 a "com/example/stylesheet_processor/stylesheetprocessor/model/AtomicType" "base" "Lcom/example/stylesheet_processor/stylesheetprocessor/model/AtomicType;" .null) :
    MetFree l (⟨"com/example/stylesheet_processor/stylesheetprocessor/model/AtomicType", "derivesFrom", "(Lcom/example/stylesheet_processor/stylesheetprocessor/model/AtomicType;)Z"⟩ : MethodName) (head1 (Jvm.Cond.code (⟨"com/example/stylesheet_processor/stylesheetprocessor/model/AtomicType", "derivesFrom", "(Lcom/example/stylesheet_processor/stylesheetprocessor/model/AtomicType;)Z"⟩ : MethodName) prog_23_method_7_code 3 (some .boolean) :: ws) ({ frames := 0, cells := 0, slots := 0, locals := 0 } : Room)) (fun a_ U_ => a_ = #[(.ref a), (.ref b)] ∧ Z.Warmed39 U_.vm ∧ U_.heap = h0) (fun _ _ _ _ _ => True) (fun _ U_ o_ V_ => ∃ v_ L_, o_ = .returned v_ ∧ Q2a Z a b h0 n0 v_ V_.heap L_ ∧ FrameEnd U_ o_ V_ L_ ({ frames := 0, cells := 0, slots := 0, locals := 0 } : Room).cells ({ frames := 0, cells := 0, slots := 0, locals := 0 } : Room).slots) := by
  refine MetFree.of_bodySF (plainFor_of_name pn_2) hisR ?_
  intro p e s m args below meth c s₁ Bd hml0 hP hK
  obtain ⟨rfl, hZ, hh⟩ := hP
  have hx := Bd.exec
  have hby := Bd.bytes
  have hml : c.maxLocals = 3 := hml0
  have hown : s.vm.findClass "com/example/stylesheet_processor/stylesheetprocessor/model/AtomicType" = some m.cls := findClass_of_methodNamed Bd.named
  have hnm := (name_of_methodNamed Bd.named Bd.method).1
  have hlk : meth.locks = false := BodyLoose.notSynchronized Bd
  have hrt := Bd.returns
  have X0 : Stand p l e ({ frames := 0, cells := 0, slots := 0, locals := 0 } : Room) s m #[(.ref a), (.ref b)] below meth c s₁ [] 0 0 := Stand.of_body Bd
  have e0 : s₁.heap = h0 := by rw [← hh, Bd.state]; rfl
  have N0 := Fr.nil n0
  show Go p.tables e below (PQ s below (Q2a Z a b h0 n0) 0 0) _
  refine Go.via (B := s₁.setTop (mkF m 0 #[.val (.ref a), .val (.ref b), .unset] [])) (fun t_ k_ => castTop (ef_2 m a b) k_) ?_
  refine Go.via (B := s₁.setTop (mkF m 8 #[.val (.ref a), .val (.ref b), .val (.ref a)] [(.ref b), (.ref a)])) (fun t_ k_ => ?_) ?_
  · show Steps p.tables e below (s₁.setTop (mkF m 0 #[.val (.ref a), .val (.ref b), .unset] [])) t_
    refine XS.aloadN X0.here hx rfl (hb hby d2_0) rfl rfl ?_
    show Steps p.tables e below (s₁.setTop (mkF m 1 #[.val (.ref a), .val (.ref b), .unset] [(.ref a)])) t_
    refine XS.astoreN X0.here hx rfl (hb hby d2_1) rfl rfl (l' := #[.val (.ref a), .val (.ref b), .val (.ref a)]) rfl ?_
    show Steps p.tables e below (s₁.setTop (mkF m 2 #[.val (.ref a), .val (.ref b), .val (.ref a)] [])) t_
    refine XS.aloadN X0.here hx rfl (hb hby d2_2) rfl rfl ?_
    show Steps p.tables e below (s₁.setTop (mkF m 3 #[.val (.ref a), .val (.ref b), .val (.ref a)] [(.ref a)])) t_
    refine XS.ifnullNo X0.here hx rfl (hb hby d2_3) rfl ?_
    show Steps p.tables e below (s₁.setTop (mkF m 6 #[.val (.ref a), .val (.ref b), .val (.ref a)] [])) t_
    refine XS.aloadN X0.here hx rfl (hb hby d2_6) rfl rfl ?_
    show Steps p.tables e below (s₁.setTop (mkF m 7 #[.val (.ref a), .val (.ref b), .val (.ref a)] [(.ref a)])) t_
    refine XS.aloadN X0.here hx rfl (hb hby d2_7) rfl rfl ?_
    show Steps p.tables e below (s₁.setTop (mkF m 8 #[.val (.ref a), .val (.ref b), .val (.ref a)] [(.ref b), (.ref a)])) t_
    exact k_
  by_cases hab : a = b
  · refine Go.via (B := s₁.setTop (mkF m 19 #[.val (.ref a), .val (.ref b), .val (.ref a)] [])) (fun t_ k_ => Jvm.RoadKit.acmp (g := (mkF m 8 #[.val (.ref a), .val (.ref b), .val (.ref a)] [(.ref b), (.ref a)])) X0 hx rfl rfl rfl (pc0 := 8) (pc' := 19) (same := true) rfl (hb hby d2_8) rfl (decide_eq_true (congrArg Value.ref hab)) (by decide) (by decide) k_) ?_
    refine Go.via (B := s₁.setTop (mkF m 28 #[.val (.ref a), .val (.ref b), .val (.ref a)] [(.int (1 : Int32))])) (fun t_ k_ => ?_) ?_
    · show Steps p.tables e below (s₁.setTop (mkF m 19 #[.val (.ref a), .val (.ref b), .val (.ref a)] [])) t_
      refine XS.aloadN X0.here hx rfl (hb hby d2_19) rfl rfl ?_
      show Steps p.tables e below (s₁.setTop (mkF m 20 #[.val (.ref a), .val (.ref b), .val (.ref a)] [(.ref a)])) t_
      refine XS.ifnullNo X0.here hx rfl (hb hby d2_20) rfl ?_
      show Steps p.tables e below (s₁.setTop (mkF m 23 #[.val (.ref a), .val (.ref b), .val (.ref a)] [])) t_
      refine XS.iconst X0.here hx rfl (hb hby d2_23) ?_
      show Steps p.tables e below (s₁.setTop (mkF m 24 #[.val (.ref a), .val (.ref b), .val (.ref a)] [(.int (1 : Int32))])) t_
      refine XS.goto X0.here hx rfl (pc0 := 24) (pc' := 28) rfl (hb hby d2_24) (by decide) (by decide) ?_
      show Steps p.tables e below (s₁.setTop (mkF m 28 #[.val (.ref a), .val (.ref b), .val (.ref a)] [(.int (1 : Int32))])) t_
      exact k_
    exact Go.leave X0 hlk (v := (some (.int (1 : Int32)))) (fun h => by rw [hrt] at h; cases h) (fun fs hr => retN X0 hx (t := .boolean) hrt (by simp) (hb hby d2_28) hr) (by decide) (by decide) (⟨by rw [if_pos hab], N0, e0⟩)
  · refine Go.via (B := s₁.setTop (mkF m 11 #[.val (.ref a), .val (.ref b), .val (.ref a)] [])) (fun t_ k_ => Jvm.RoadKit.acmp (g := (mkF m 8 #[.val (.ref a), .val (.ref b), .val (.ref a)] [(.ref b), (.ref a)])) X0 hx rfl rfl rfl (pc0 := 8) (pc' := 11) (same := false) rfl (hb hby d2_8) rfl (decide_eq_false fun u => hab (Value.ref.inj u)) (by decide) (by decide) k_) ?_
    refine Go.via (B := s₁.setTop (mkF m 12 #[.val (.ref a), .val (.ref b), .val (.ref a)] [(.ref a)])) (fun t_ k_ => ?_) ?_
    · show Steps p.tables e below (s₁.setTop (mkF m 11 #[.val (.ref a), .val (.ref b), .val (.ref a)] [])) t_
      refine XS.aloadN X0.here hx rfl (hb hby d2_11) rfl rfl ?_
      show Steps p.tables e below (s₁.setTop (mkF m 12 #[.val (.ref a), .val (.ref b), .val (.ref a)] [(.ref a)])) t_
      exact k_
    obtain ⟨T7, X7, e7, st7⟩ := getF X0 hx hZ hown (host := "") (Or.inl (hw _ (List.mem_of_getElem? (i := 15) rfl))) Via.refl e0 Fb (g := (mkF m 12 #[.val (.ref a), .val (.ref b), .val (.ref a)] [(.ref a)])) rfl rfl (hb hby d2_12)
    refine Go.via st7 ?_
    show Go p.tables e below _ (T7.setTop (mkF m 15 #[.val (.ref a), .val (.ref b), .val (.ref a)] [.null]))
    refine Go.via (B := T7.setTop (mkF m 28 #[.val (.ref a), .val (.ref b), .val .null] [(.int (0 : Int32))])) (fun t_ k_ => ?_) ?_
    · show Steps p.tables e below (T7.setTop (mkF m 15 #[.val (.ref a), .val (.ref b), .val (.ref a)] [.null])) t_
      refine XS.astoreN X7.here hx rfl (hb hby d2_15) rfl rfl (l' := #[.val (.ref a), .val (.ref b), .val .null]) rfl ?_
      show Steps p.tables e below (T7.setTop (mkF m 16 #[.val (.ref a), .val (.ref b), .val .null] [])) t_
      refine XS.goto X7.here hx rfl (pc0 := 16) (pc' := 2) rfl (hb hby d2_16) (by decide) (by decide) ?_
      show Steps p.tables e below (T7.setTop (mkF m 2 #[.val (.ref a), .val (.ref b), .val .null] [])) t_
      refine XS.aloadN X7.here hx rfl (hb hby d2_2) rfl rfl ?_
      show Steps p.tables e below (T7.setTop (mkF m 3 #[.val (.ref a), .val (.ref b), .val .null] [.null])) t_
      refine XS.ifnullYes X7.here hx rfl (pc0 := 3) (pc' := 19) rfl (hb hby d2_3) rfl (by decide) (by decide) ?_
      show Steps p.tables e below (T7.setTop (mkF m 19 #[.val (.ref a), .val (.ref b), .val .null] [])) t_
      refine XS.aloadN X7.here hx rfl (hb hby d2_19) rfl rfl ?_
      show Steps p.tables e below (T7.setTop (mkF m 20 #[.val (.ref a), .val (.ref b), .val .null] [.null])) t_
      refine XS.ifnullYes X7.here hx rfl (pc0 := 20) (pc' := 27) rfl (hb hby d2_20) rfl (by decide) (by decide) ?_
      show Steps p.tables e below (T7.setTop (mkF m 27 #[.val (.ref a), .val (.ref b), .val .null] [])) t_
      refine XS.iconst X7.here hx rfl (hb hby d2_27) ?_
      show Steps p.tables e below (T7.setTop (mkF m 28 #[.val (.ref a), .val (.ref b), .val .null] [(.int (0 : Int32))])) t_
      exact k_
    exact Go.leave X7 hlk (v := (some (.int (0 : Int32)))) (fun h => by rw [hrt] at h; cases h) (fun fs hr => retN X7 hx (t := .boolean) hrt (by simp) (hb hby d2_28) hr) (by decide) (by decide) (⟨by rw [if_neg hab], N0, e7⟩)
def Q2b (Z : State) (a : Addr) (b : Addr) (d : Addr) (h0 : Heap) (n0 : Nat) (v : Option Value) (h : Heap) (L : List Loc) : Prop := v = some (.int (if a = b then 1 else if d = b then 1 else 0)) ∧ Fr n0 L ∧ h = h0
set_option maxRecDepth 65536 in
set_option maxHeartbeats 40000000 in
theorem rm2b (l : Launch) (Z : State) (a0 : Array Value) (hw : ∀ d ∈ tables_1, d.before a0 Z = true) (ws : List Jvm.Cond) (a : Addr) (b : Addr) (d : Addr) (h0 : Heap) (n0 : Nat) (Z0 : n0 ≤ h0.size) (Fb : Fld Z h0 a "com/example/stylesheet_processor/stylesheetprocessor/model/AtomicType" "base" "Lcom/example/stylesheet_processor/stylesheetprocessor/model/AtomicType;" (.ref d)) (Fd : Fld Z h0 d "com/example/stylesheet_processor/stylesheetprocessor/model/AtomicType" "base" "Lcom/example/stylesheet_processor/stylesheetprocessor/model/AtomicType;" .null) :
    MetFree l (⟨"com/example/stylesheet_processor/stylesheetprocessor/model/AtomicType", "derivesFrom", "(Lcom/example/stylesheet_processor/stylesheetprocessor/model/AtomicType;)Z"⟩ : MethodName) (head1 (Jvm.Cond.code (⟨"com/example/stylesheet_processor/stylesheetprocessor/model/AtomicType", "derivesFrom", "(Lcom/example/stylesheet_processor/stylesheetprocessor/model/AtomicType;)Z"⟩ : MethodName) prog_23_method_7_code 3 (some .boolean) :: ws) ({ frames := 0, cells := 0, slots := 0, locals := 0 } : Room)) (fun a_ U_ => a_ = #[(.ref a), (.ref b)] ∧ Z.Warmed39 U_.vm ∧ U_.heap = h0) (fun _ _ _ _ _ => True) (fun _ U_ o_ V_ => ∃ v_ L_, o_ = .returned v_ ∧ Q2b Z a b d h0 n0 v_ V_.heap L_ ∧ FrameEnd U_ o_ V_ L_ ({ frames := 0, cells := 0, slots := 0, locals := 0 } : Room).cells ({ frames := 0, cells := 0, slots := 0, locals := 0 } : Room).slots) := by
  refine MetFree.of_bodySF (plainFor_of_name pn_2) hisR ?_
  intro p e s m args below meth c s₁ Bd hml0 hP hK
  obtain ⟨rfl, hZ, hh⟩ := hP
  have hx := Bd.exec
  have hby := Bd.bytes
  have hml : c.maxLocals = 3 := hml0
  have hown : s.vm.findClass "com/example/stylesheet_processor/stylesheetprocessor/model/AtomicType" = some m.cls := findClass_of_methodNamed Bd.named
  have hnm := (name_of_methodNamed Bd.named Bd.method).1
  have hlk : meth.locks = false := BodyLoose.notSynchronized Bd
  have hrt := Bd.returns
  have X0 : Stand p l e ({ frames := 0, cells := 0, slots := 0, locals := 0 } : Room) s m #[(.ref a), (.ref b)] below meth c s₁ [] 0 0 := Stand.of_body Bd
  have e0 : s₁.heap = h0 := by rw [← hh, Bd.state]; rfl
  have N0 := Fr.nil n0
  show Go p.tables e below (PQ s below (Q2b Z a b d h0 n0) 0 0) _
  refine Go.via (B := s₁.setTop (mkF m 0 #[.val (.ref a), .val (.ref b), .unset] [])) (fun t_ k_ => castTop (ef_2 m a b) k_) ?_
  refine Go.via (B := s₁.setTop (mkF m 8 #[.val (.ref a), .val (.ref b), .val (.ref a)] [(.ref b), (.ref a)])) (fun t_ k_ => ?_) ?_
  · show Steps p.tables e below (s₁.setTop (mkF m 0 #[.val (.ref a), .val (.ref b), .unset] [])) t_
    refine XS.aloadN X0.here hx rfl (hb hby d2_0) rfl rfl ?_
    show Steps p.tables e below (s₁.setTop (mkF m 1 #[.val (.ref a), .val (.ref b), .unset] [(.ref a)])) t_
    refine XS.astoreN X0.here hx rfl (hb hby d2_1) rfl rfl (l' := #[.val (.ref a), .val (.ref b), .val (.ref a)]) rfl ?_
    show Steps p.tables e below (s₁.setTop (mkF m 2 #[.val (.ref a), .val (.ref b), .val (.ref a)] [])) t_
    refine XS.aloadN X0.here hx rfl (hb hby d2_2) rfl rfl ?_
    show Steps p.tables e below (s₁.setTop (mkF m 3 #[.val (.ref a), .val (.ref b), .val (.ref a)] [(.ref a)])) t_
    refine XS.ifnullNo X0.here hx rfl (hb hby d2_3) rfl ?_
    show Steps p.tables e below (s₁.setTop (mkF m 6 #[.val (.ref a), .val (.ref b), .val (.ref a)] [])) t_
    refine XS.aloadN X0.here hx rfl (hb hby d2_6) rfl rfl ?_
    show Steps p.tables e below (s₁.setTop (mkF m 7 #[.val (.ref a), .val (.ref b), .val (.ref a)] [(.ref a)])) t_
    refine XS.aloadN X0.here hx rfl (hb hby d2_7) rfl rfl ?_
    show Steps p.tables e below (s₁.setTop (mkF m 8 #[.val (.ref a), .val (.ref b), .val (.ref a)] [(.ref b), (.ref a)])) t_
    exact k_
  by_cases hab : a = b
  · refine Go.via (B := s₁.setTop (mkF m 19 #[.val (.ref a), .val (.ref b), .val (.ref a)] [])) (fun t_ k_ => Jvm.RoadKit.acmp (g := (mkF m 8 #[.val (.ref a), .val (.ref b), .val (.ref a)] [(.ref b), (.ref a)])) X0 hx rfl rfl rfl (pc0 := 8) (pc' := 19) (same := true) rfl (hb hby d2_8) rfl (decide_eq_true (congrArg Value.ref hab)) (by decide) (by decide) k_) ?_
    refine Go.via (B := s₁.setTop (mkF m 28 #[.val (.ref a), .val (.ref b), .val (.ref a)] [(.int (1 : Int32))])) (fun t_ k_ => ?_) ?_
    · show Steps p.tables e below (s₁.setTop (mkF m 19 #[.val (.ref a), .val (.ref b), .val (.ref a)] [])) t_
      refine XS.aloadN X0.here hx rfl (hb hby d2_19) rfl rfl ?_
      show Steps p.tables e below (s₁.setTop (mkF m 20 #[.val (.ref a), .val (.ref b), .val (.ref a)] [(.ref a)])) t_
      refine XS.ifnullNo X0.here hx rfl (hb hby d2_20) rfl ?_
      show Steps p.tables e below (s₁.setTop (mkF m 23 #[.val (.ref a), .val (.ref b), .val (.ref a)] [])) t_
      refine XS.iconst X0.here hx rfl (hb hby d2_23) ?_
      show Steps p.tables e below (s₁.setTop (mkF m 24 #[.val (.ref a), .val (.ref b), .val (.ref a)] [(.int (1 : Int32))])) t_
      refine XS.goto X0.here hx rfl (pc0 := 24) (pc' := 28) rfl (hb hby d2_24) (by decide) (by decide) ?_
      show Steps p.tables e below (s₁.setTop (mkF m 28 #[.val (.ref a), .val (.ref b), .val (.ref a)] [(.int (1 : Int32))])) t_
      exact k_
    exact Go.leave X0 hlk (v := (some (.int (1 : Int32)))) (fun h => by rw [hrt] at h; cases h) (fun fs hr => retN X0 hx (t := .boolean) hrt (by simp) (hb hby d2_28) hr) (by decide) (by decide) (⟨by rw [if_pos hab], N0, e0⟩)
  · refine Go.via (B := s₁.setTop (mkF m 11 #[.val (.ref a), .val (.ref b), .val (.ref a)] [])) (fun t_ k_ => Jvm.RoadKit.acmp (g := (mkF m 8 #[.val (.ref a), .val (.ref b), .val (.ref a)] [(.ref b), (.ref a)])) X0 hx rfl rfl rfl (pc0 := 8) (pc' := 11) (same := false) rfl (hb hby d2_8) rfl (decide_eq_false fun u => hab (Value.ref.inj u)) (by decide) (by decide) k_) ?_
    refine Go.via (B := s₁.setTop (mkF m 12 #[.val (.ref a), .val (.ref b), .val (.ref a)] [(.ref a)])) (fun t_ k_ => ?_) ?_
    · show Steps p.tables e below (s₁.setTop (mkF m 11 #[.val (.ref a), .val (.ref b), .val (.ref a)] [])) t_
      refine XS.aloadN X0.here hx rfl (hb hby d2_11) rfl rfl ?_
      show Steps p.tables e below (s₁.setTop (mkF m 12 #[.val (.ref a), .val (.ref b), .val (.ref a)] [(.ref a)])) t_
      exact k_
    obtain ⟨T8, X8, e8, st8⟩ := getF X0 hx hZ hown (host := "") (Or.inl (hw _ (List.mem_of_getElem? (i := 15) rfl))) Via.refl e0 Fb (g := (mkF m 12 #[.val (.ref a), .val (.ref b), .val (.ref a)] [(.ref a)])) rfl rfl (hb hby d2_12)
    refine Go.via st8 ?_
    show Go p.tables e below _ (T8.setTop (mkF m 15 #[.val (.ref a), .val (.ref b), .val (.ref a)] [(.ref d)]))
    refine Go.via (B := T8.setTop (mkF m 8 #[.val (.ref a), .val (.ref b), .val (.ref d)] [(.ref b), (.ref d)])) (fun t_ k_ => ?_) ?_
    · show Steps p.tables e below (T8.setTop (mkF m 15 #[.val (.ref a), .val (.ref b), .val (.ref a)] [(.ref d)])) t_
      refine XS.astoreN X8.here hx rfl (hb hby d2_15) rfl rfl (l' := #[.val (.ref a), .val (.ref b), .val (.ref d)]) rfl ?_
      show Steps p.tables e below (T8.setTop (mkF m 16 #[.val (.ref a), .val (.ref b), .val (.ref d)] [])) t_
      refine XS.goto X8.here hx rfl (pc0 := 16) (pc' := 2) rfl (hb hby d2_16) (by decide) (by decide) ?_
      show Steps p.tables e below (T8.setTop (mkF m 2 #[.val (.ref a), .val (.ref b), .val (.ref d)] [])) t_
      refine XS.aloadN X8.here hx rfl (hb hby d2_2) rfl rfl ?_
      show Steps p.tables e below (T8.setTop (mkF m 3 #[.val (.ref a), .val (.ref b), .val (.ref d)] [(.ref d)])) t_
      refine XS.ifnullNo X8.here hx rfl (hb hby d2_3) rfl ?_
      show Steps p.tables e below (T8.setTop (mkF m 6 #[.val (.ref a), .val (.ref b), .val (.ref d)] [])) t_
      refine XS.aloadN X8.here hx rfl (hb hby d2_6) rfl rfl ?_
      show Steps p.tables e below (T8.setTop (mkF m 7 #[.val (.ref a), .val (.ref b), .val (.ref d)] [(.ref d)])) t_
      refine XS.aloadN X8.here hx rfl (hb hby d2_7) rfl rfl ?_
      show Steps p.tables e below (T8.setTop (mkF m 8 #[.val (.ref a), .val (.ref b), .val (.ref d)] [(.ref b), (.ref d)])) t_
      exact k_
    by_cases hdb : d = b
    · refine Go.via (B := T8.setTop (mkF m 19 #[.val (.ref a), .val (.ref b), .val (.ref d)] [])) (fun t_ k_ => Jvm.RoadKit.acmp (g := (mkF m 8 #[.val (.ref a), .val (.ref b), .val (.ref d)] [(.ref b), (.ref d)])) X8 hx rfl rfl rfl (pc0 := 8) (pc' := 19) (same := true) rfl (hb hby d2_8) rfl (decide_eq_true (congrArg Value.ref hdb)) (by decide) (by decide) k_) ?_
      refine Go.via (B := T8.setTop (mkF m 28 #[.val (.ref a), .val (.ref b), .val (.ref d)] [(.int (1 : Int32))])) (fun t_ k_ => ?_) ?_
      · show Steps p.tables e below (T8.setTop (mkF m 19 #[.val (.ref a), .val (.ref b), .val (.ref d)] [])) t_
        refine XS.aloadN X8.here hx rfl (hb hby d2_19) rfl rfl ?_
        show Steps p.tables e below (T8.setTop (mkF m 20 #[.val (.ref a), .val (.ref b), .val (.ref d)] [(.ref d)])) t_
        refine XS.ifnullNo X8.here hx rfl (hb hby d2_20) rfl ?_
        show Steps p.tables e below (T8.setTop (mkF m 23 #[.val (.ref a), .val (.ref b), .val (.ref d)] [])) t_
        refine XS.iconst X8.here hx rfl (hb hby d2_23) ?_
        show Steps p.tables e below (T8.setTop (mkF m 24 #[.val (.ref a), .val (.ref b), .val (.ref d)] [(.int (1 : Int32))])) t_
        refine XS.goto X8.here hx rfl (pc0 := 24) (pc' := 28) rfl (hb hby d2_24) (by decide) (by decide) ?_
        show Steps p.tables e below (T8.setTop (mkF m 28 #[.val (.ref a), .val (.ref b), .val (.ref d)] [(.int (1 : Int32))])) t_
        exact k_
      exact Go.leave X8 hlk (v := (some (.int (1 : Int32)))) (fun h => by rw [hrt] at h; cases h) (fun fs hr => retN X8 hx (t := .boolean) hrt (by simp) (hb hby d2_28) hr) (by decide) (by decide) (⟨by rw [if_neg hab, if_pos hdb], N0, e8⟩)
    · refine Go.via (B := T8.setTop (mkF m 11 #[.val (.ref a), .val (.ref b), .val (.ref d)] [])) (fun t_ k_ => Jvm.RoadKit.acmp (g := (mkF m 8 #[.val (.ref a), .val (.ref b), .val (.ref d)] [(.ref b), (.ref d)])) X8 hx rfl rfl rfl (pc0 := 8) (pc' := 11) (same := false) rfl (hb hby d2_8) rfl (decide_eq_false fun u => hdb (Value.ref.inj u)) (by decide) (by decide) k_) ?_
      refine Go.via (B := T8.setTop (mkF m 12 #[.val (.ref a), .val (.ref b), .val (.ref d)] [(.ref d)])) (fun t_ k_ => ?_) ?_
      · show Steps p.tables e below (T8.setTop (mkF m 11 #[.val (.ref a), .val (.ref b), .val (.ref d)] [])) t_
        refine XS.aloadN X8.here hx rfl (hb hby d2_11) rfl rfl ?_
        show Steps p.tables e below (T8.setTop (mkF m 12 #[.val (.ref a), .val (.ref b), .val (.ref d)] [(.ref d)])) t_
        exact k_
      obtain ⟨T9, X9, e9, st9⟩ := getF X8 hx hZ hown (host := "") (Or.inl (hw _ (List.mem_of_getElem? (i := 15) rfl))) Via.refl e8 Fd (g := (mkF m 12 #[.val (.ref a), .val (.ref b), .val (.ref d)] [(.ref d)])) rfl rfl (hb hby d2_12)
      refine Go.via st9 ?_
      show Go p.tables e below _ (T9.setTop (mkF m 15 #[.val (.ref a), .val (.ref b), .val (.ref d)] [.null]))
      refine Go.via (B := T9.setTop (mkF m 28 #[.val (.ref a), .val (.ref b), .val .null] [(.int (0 : Int32))])) (fun t_ k_ => ?_) ?_
      · show Steps p.tables e below (T9.setTop (mkF m 15 #[.val (.ref a), .val (.ref b), .val (.ref d)] [.null])) t_
        refine XS.astoreN X9.here hx rfl (hb hby d2_15) rfl rfl (l' := #[.val (.ref a), .val (.ref b), .val .null]) rfl ?_
        show Steps p.tables e below (T9.setTop (mkF m 16 #[.val (.ref a), .val (.ref b), .val .null] [])) t_
        refine XS.goto X9.here hx rfl (pc0 := 16) (pc' := 2) rfl (hb hby d2_16) (by decide) (by decide) ?_
        show Steps p.tables e below (T9.setTop (mkF m 2 #[.val (.ref a), .val (.ref b), .val .null] [])) t_
        refine XS.aloadN X9.here hx rfl (hb hby d2_2) rfl rfl ?_
        show Steps p.tables e below (T9.setTop (mkF m 3 #[.val (.ref a), .val (.ref b), .val .null] [.null])) t_
        refine XS.ifnullYes X9.here hx rfl (pc0 := 3) (pc' := 19) rfl (hb hby d2_3) rfl (by decide) (by decide) ?_
        show Steps p.tables e below (T9.setTop (mkF m 19 #[.val (.ref a), .val (.ref b), .val .null] [])) t_
        refine XS.aloadN X9.here hx rfl (hb hby d2_19) rfl rfl ?_
        show Steps p.tables e below (T9.setTop (mkF m 20 #[.val (.ref a), .val (.ref b), .val .null] [.null])) t_
        refine XS.ifnullYes X9.here hx rfl (pc0 := 20) (pc' := 27) rfl (hb hby d2_20) rfl (by decide) (by decide) ?_
        show Steps p.tables e below (T9.setTop (mkF m 27 #[.val (.ref a), .val (.ref b), .val .null] [])) t_
        refine XS.iconst X9.here hx rfl (hb hby d2_27) ?_
        show Steps p.tables e below (T9.setTop (mkF m 28 #[.val (.ref a), .val (.ref b), .val .null] [(.int (0 : Int32))])) t_
        exact k_
      exact Go.leave X9 hlk (v := (some (.int (0 : Int32)))) (fun h => by rw [hrt] at h; cases h) (fun fs hr => retN X9 hx (t := .boolean) hrt (by simp) (hb hby d2_28) hr) (by decide) (by decide) (⟨by rw [if_neg hab, if_neg hdb], N0, e9⟩)
theorem pn_0 : plainName "com/example/stylesheet_processor/stylesheetprocessor/model/AtomicTypeDerivesFromPinLaw" = true := by first | (simp [plainName, overriddenIn]; done) | decide +kernel
theorem ef_0 (m : MethodId) (x0 : Int32) (x1 : Int32) : entryFrame m #[(.int x0), (.int x1)] maxLocals = mkF m 0 #[.val (.int x0), .val (.int x1), .unset, .unset, .unset, .unset, .unset] [] := by first | (simp [entryFrame, mkF, argsToLocals, Value.category, maxLocals]; done) | rfl
def Q0 (Z : State) (p0 : Int32) (p1 : Int32) (w0 : Addr) (w1 : Addr) (w2 : Addr) (w3 : Addr) (w4 : Addr) (w5 : Addr) (h0 : Heap) (n0 : Nat) (v : Option Value) (h : Heap) (L : List Loc) : Prop := v = some (.int 1) ∧ Fr n0 L
set_option maxRecDepth 65536 in
set_option maxHeartbeats 40000000 in
theorem rm0 (l : Launch) (Z : State) (a0 : Array Value) (hw : ∀ d ∈ tables_1, d.before a0 Z = true) (ws : List Jvm.Cond) (p0 : Int32) (p1 : Int32) (w0 : Addr) (w1 : Addr) (w2 : Addr) (w3 : Addr) (w4 : Addr) (w5 : Addr) (h0 : Heap) (n0 : Nat) (Z0 : n0 ≤ h0.size) (S0 : Sta Z h0 "com/example/stylesheet_processor/stylesheetprocessor/model/AtomicType" "UNTYPED_ATOMIC" "Lcom/example/stylesheet_processor/stylesheetprocessor/model/AtomicType;" (.ref w0)) (S1 : Sta Z h0 "com/example/stylesheet_processor/stylesheetprocessor/model/AtomicType" "STRING" "Lcom/example/stylesheet_processor/stylesheetprocessor/model/AtomicType;" (.ref w1)) (S2 : Sta Z h0 "com/example/stylesheet_processor/stylesheetprocessor/model/AtomicType" "DOUBLE" "Lcom/example/stylesheet_processor/stylesheetprocessor/model/AtomicType;" (.ref w2)) (S3 : Sta Z h0 "com/example/stylesheet_processor/stylesheetprocessor/model/AtomicType" "DECIMAL" "Lcom/example/stylesheet_processor/stylesheetprocessor/model/AtomicType;" (.ref w3)) (S4 : Sta Z h0 "com/example/stylesheet_processor/stylesheetprocessor/model/AtomicType" "INTEGER" "Lcom/example/stylesheet_processor/stylesheetprocessor/model/AtomicType;" (.ref w4)) (S5 : Sta Z h0 "com/example/stylesheet_processor/stylesheetprocessor/model/AtomicType" "BOOLEAN" "Lcom/example/stylesheet_processor/stylesheetprocessor/model/AtomicType;" (.ref w5)) (E0 : Exa Z h0 w0 "com/example/stylesheet_processor/stylesheetprocessor/model/AtomicType$1") (E1 : Exa Z h0 w1 "com/example/stylesheet_processor/stylesheetprocessor/model/AtomicType$2") (E2 : Exa Z h0 w2 "com/example/stylesheet_processor/stylesheetprocessor/model/AtomicType$3") (E3 : Exa Z h0 w3 "com/example/stylesheet_processor/stylesheetprocessor/model/AtomicType$4") (E4 : Exa Z h0 w4 "com/example/stylesheet_processor/stylesheetprocessor/model/AtomicType$5") (E5 : Exa Z h0 w5 "com/example/stylesheet_processor/stylesheetprocessor/model/AtomicType$6") (B0 : Fld Z h0 w0 "com/example/stylesheet_processor/stylesheetprocessor/model/AtomicType" "base" "Lcom/example/stylesheet_processor/stylesheetprocessor/model/AtomicType;" .null) (B1 : Fld Z h0 w1 "com/example/stylesheet_processor/stylesheetprocessor/model/AtomicType" "base" "Lcom/example/stylesheet_processor/stylesheetprocessor/model/AtomicType;" .null) (B2 : Fld Z h0 w2 "com/example/stylesheet_processor/stylesheetprocessor/model/AtomicType" "base" "Lcom/example/stylesheet_processor/stylesheetprocessor/model/AtomicType;" .null) (B3 : Fld Z h0 w3 "com/example/stylesheet_processor/stylesheetprocessor/model/AtomicType" "base" "Lcom/example/stylesheet_processor/stylesheetprocessor/model/AtomicType;" .null) (B4 : Fld Z h0 w4 "com/example/stylesheet_processor/stylesheetprocessor/model/AtomicType" "base" "Lcom/example/stylesheet_processor/stylesheetprocessor/model/AtomicType;" (.ref w3)) (B5 : Fld Z h0 w5 "com/example/stylesheet_processor/stylesheetprocessor/model/AtomicType" "base" "Lcom/example/stylesheet_processor/stylesheetprocessor/model/AtomicType;" .null) (hd : [w0, w1, w2, w3, w4, w5].Nodup) :
    MetFree l x (head1 (Jvm.Cond.code x code maxLocals ret :: ws) room_1) (fun a_ U_ => a_ = #[(.int p0), (.int p1)] ∧ Z.Warmed39 U_.vm ∧ U_.heap = h0) (fun _ _ _ _ _ => True) (fun _ U_ o_ V_ => ∃ v_ L_, o_ = .returned v_ ∧ Q0 Z p0 p1 w0 w1 w2 w3 w4 w5 h0 n0 v_ V_.heap L_ ∧ FrameEnd U_ o_ V_ L_ 0 0) := by
  refine MetFree.of_bodySF (plainFor_of_name pn_0) hisR ?_
  intro p e s m args below meth c s₁ Bd hml0 hP hK
  obtain ⟨rfl, hZ, hh⟩ := hP
  have hx := Bd.exec
  have hby := Bd.bytes
  have hml : c.maxLocals = 7 := hml0
  have hown : s.vm.findClass "com/example/stylesheet_processor/stylesheetprocessor/model/AtomicTypeDerivesFromPinLaw" = some m.cls := findClass_of_methodNamed Bd.named
  have hnm := (name_of_methodNamed Bd.named Bd.method).1
  have hlk : meth.locks = false := BodyLoose.notSynchronized Bd
  have hrt := Bd.returns
  have X0 : Stand p l e room_1 s m #[(.int p0), (.int p1)] below meth c s₁ [] 0 0 := Stand.of_body Bd
  have e0 : s₁.heap = h0 := by rw [← hh, Bd.state]; rfl
  have N0 := Fr.nil n0
  show Go p.tables e below (PQ s below (Q0 Z p0 p1 w0 w1 w2 w3 w4 w5 h0 n0) 0 0) _
  refine Go.via (B := s₁.setTop (mkF m 0 #[.val (.int p0), .val (.int p1), .unset, .unset, .unset, .unset, .unset] [])) (fun t_ k_ => castTop (ef_0 m p0 p1) k_) ?_
  refine Go.via (B := s₁.setTop (mkF m 16 #[.val (.int p0), .val (.int p1), .val (.int ((p0 &&& (2147483647 : Int32)) % (6 : Int32))), .val (.int ((p1 &&& (2147483647 : Int32)) % (6 : Int32))), .unset, .unset, .unset] [])) (fun t_ k_ => ?_) ?_
  · show Steps p.tables e below (s₁.setTop (mkF m 0 #[.val (.int p0), .val (.int p1), .unset, .unset, .unset, .unset, .unset] [])) t_
    refine XS.iloadN X0.here hx rfl (hb hby at_0) rfl ?_
    show Steps p.tables e below (s₁.setTop (mkF m 1 #[.val (.int p0), .val (.int p1), .unset, .unset, .unset, .unset, .unset] [(.int p0)])) t_
    refine X0.ldcInt hx hown (mvT hZ (hw _ (List.mem_of_getElem? (i := 0) rfl))) (g := (mkF m 1 #[.val (.int p0), .val (.int p1), .unset, .unset, .unset, .unset, .unset] [(.int p0)])) rfl (hb hby at_1) _ ?_
    show Steps p.tables e below (s₁.setTop (mkF m 3 #[.val (.int p0), .val (.int p1), .unset, .unset, .unset, .unset, .unset] [(.int (2147483647 : Int32)), (.int p0)])) t_
    refine XS.iand X0.here hx rfl (hb hby at_3) rfl ?_
    show Steps p.tables e below (s₁.setTop (mkF m 4 #[.val (.int p0), .val (.int p1), .unset, .unset, .unset, .unset, .unset] [(.int (p0 &&& (2147483647 : Int32)))])) t_
    refine XS.bipush X0.here hx rfl (hb hby at_4) ?_
    show Steps p.tables e below (s₁.setTop (mkF m 6 #[.val (.int p0), .val (.int p1), .unset, .unset, .unset, .unset, .unset] [(.int (6 : Int32)), (.int (p0 &&& (2147483647 : Int32)))])) t_
    refine iremM X0 hx rfl (hb hby at_6) rfl (by decide) ?_
    show Steps p.tables e below (s₁.setTop (mkF m 7 #[.val (.int p0), .val (.int p1), .unset, .unset, .unset, .unset, .unset] [(.int ((p0 &&& (2147483647 : Int32)) % (6 : Int32)))])) t_
    refine XS.istoreN X0.here hx rfl (hb hby at_7) rfl (l' := #[.val (.int p0), .val (.int p1), .val (.int ((p0 &&& (2147483647 : Int32)) % (6 : Int32))), .unset, .unset, .unset, .unset]) rfl ?_
    show Steps p.tables e below (s₁.setTop (mkF m 8 #[.val (.int p0), .val (.int p1), .val (.int ((p0 &&& (2147483647 : Int32)) % (6 : Int32))), .unset, .unset, .unset, .unset] [])) t_
    refine XS.iloadN X0.here hx rfl (hb hby at_8) rfl ?_
    show Steps p.tables e below (s₁.setTop (mkF m 9 #[.val (.int p0), .val (.int p1), .val (.int ((p0 &&& (2147483647 : Int32)) % (6 : Int32))), .unset, .unset, .unset, .unset] [(.int p1)])) t_
    refine X0.ldcInt hx hown (mvT hZ (hw _ (List.mem_of_getElem? (i := 0) rfl))) (g := (mkF m 9 #[.val (.int p0), .val (.int p1), .val (.int ((p0 &&& (2147483647 : Int32)) % (6 : Int32))), .unset, .unset, .unset, .unset] [(.int p1)])) rfl (hb hby at_9) _ ?_
    show Steps p.tables e below (s₁.setTop (mkF m 11 #[.val (.int p0), .val (.int p1), .val (.int ((p0 &&& (2147483647 : Int32)) % (6 : Int32))), .unset, .unset, .unset, .unset] [(.int (2147483647 : Int32)), (.int p1)])) t_
    refine XS.iand X0.here hx rfl (hb hby at_11) rfl ?_
    show Steps p.tables e below (s₁.setTop (mkF m 12 #[.val (.int p0), .val (.int p1), .val (.int ((p0 &&& (2147483647 : Int32)) % (6 : Int32))), .unset, .unset, .unset, .unset] [(.int (p1 &&& (2147483647 : Int32)))])) t_
    refine XS.bipush X0.here hx rfl (hb hby at_12) ?_
    show Steps p.tables e below (s₁.setTop (mkF m 14 #[.val (.int p0), .val (.int p1), .val (.int ((p0 &&& (2147483647 : Int32)) % (6 : Int32))), .unset, .unset, .unset, .unset] [(.int (6 : Int32)), (.int (p1 &&& (2147483647 : Int32)))])) t_
    refine iremM X0 hx rfl (hb hby at_14) rfl (by decide) ?_
    show Steps p.tables e below (s₁.setTop (mkF m 15 #[.val (.int p0), .val (.int p1), .val (.int ((p0 &&& (2147483647 : Int32)) % (6 : Int32))), .unset, .unset, .unset, .unset] [(.int ((p1 &&& (2147483647 : Int32)) % (6 : Int32)))])) t_
    refine XS.istoreN X0.here hx rfl (hb hby at_15) rfl (l' := #[.val (.int p0), .val (.int p1), .val (.int ((p0 &&& (2147483647 : Int32)) % (6 : Int32))), .val (.int ((p1 &&& (2147483647 : Int32)) % (6 : Int32))), .unset, .unset, .unset]) rfl ?_
    show Steps p.tables e below (s₁.setTop (mkF m 16 #[.val (.int p0), .val (.int p1), .val (.int ((p0 &&& (2147483647 : Int32)) % (6 : Int32))), .val (.int ((p1 &&& (2147483647 : Int32)) % (6 : Int32))), .unset, .unset, .unset] [])) t_
    exact k_
  show Go p.tables e below _ (s₁.setTop (mkF m 16 #[.val (.int p0), .val (.int p1), .val (.int (IX p0)), .val (.int (IX p1)), .unset, .unset, .unset] []))
  have hi6 := own_six p0
  have hj6 := own_six p1
  generalize IX p0 = i at hi6 ⊢
  generalize IX p1 = j at hj6 ⊢
  refine Go.via (B := s₁.setTop (mkF m 17 #[.val (.int p0), .val (.int p1), .val (.int i), .val (.int j), .unset, .unset, .unset] [(.int i)])) (fun t_ k_ => ?_) ?_
  · show Steps p.tables e below (s₁.setTop (mkF m 16 #[.val (.int p0), .val (.int p1), .val (.int i), .val (.int j), .unset, .unset, .unset] [])) t_
    refine XS.iloadN X0.here hx rfl (hb hby at_16) rfl ?_
    show Steps p.tables e below (s₁.setTop (mkF m 17 #[.val (.int p0), .val (.int p1), .val (.int i), .val (.int j), .unset, .unset, .unset] [(.int i)])) t_
    exact k_
  obtain ⟨_, _, ⟨T10, L10, k10, n10⟩, -, X10, ⟨Lc10, hQ10, l10, y10, z10⟩, st10⟩ := Jvm.LawKit.callS X0 hx (y := (⟨"com/example/stylesheet_processor/stylesheetprocessor/model/AtomicTypeDerivesFromPinLaw", "pick", "(I)Lcom/example/stylesheet_processor/stylesheetprocessor/model/AtomicType;"⟩ : MethodName)) hown (mvT hZ (hw _ (List.mem_of_getElem? (i := 1) rfl))) (mvT hZ (hw _ (List.mem_of_getElem? (i := 2) rfl))) (mvT hZ (hw _ (List.mem_of_getElem? (i := 3) rfl))) (mvT hZ (hw _ (List.mem_of_getElem? (i := 4) rfl))) (by decide) (backOf (W := 0) (rm1 l Z a0 hw [] i w0 w1 w2 w3 w4 w5 h0 n0 Z0 S0 S1 S2 S3 S4 S5) hZ (hw _ (List.mem_of_getElem? (i := 4) rfl)) (hw _ (List.mem_of_getElem? (i := 3) rfl)) (by decide) (by decide)) (g := (mkF m 17 #[.val (.int p0), .val (.int p1), .val (.int i), .val (.int j), .unset, .unset, .unset] [(.int i)])) rfl (by rw [hml]; rfl) (argsL := [(.int i)]) (rest := []) (lenOf pd0 rfl) rfl (by show 2 * 0 + _ ≤ _; exact Nat.le_of_eq rfl) (hb hby at_17) (fun _ _ => ⟨rfl, e0, (by decide : 0 + 0 ≤ _), (by decide : 0 + 0 ≤ _)⟩)
  dsimp only [Pt.U, Pt.locs, Pt.cells, Pt.slots] at X10 l10 y10 z10 st10 hQ10
  subst l10 y10 z10
  obtain ⟨rfl, N10q, e10⟩ := hQ10
  have N10 := Fr.app N0 N10q
  refine Go.via st10 ?_
  show Go p.tables e below _ (T10.setTop (mkF m 20 #[.val (.int p0), .val (.int p1), .val (.int i), .val (.int j), .unset, .unset, .unset] [(.ref (PK w0 w1 w2 w3 w4 w5 i))]))
  refine Go.via (B := T10.setTop (mkF m 23 #[.val (.int p0), .val (.int p1), .val (.int i), .val (.int j), .val (.ref (PK w0 w1 w2 w3 w4 w5 i)), .unset, .unset] [(.int j)])) (fun t_ k_ => ?_) ?_
  · show Steps p.tables e below (T10.setTop (mkF m 20 #[.val (.int p0), .val (.int p1), .val (.int i), .val (.int j), .unset, .unset, .unset] [(.ref (PK w0 w1 w2 w3 w4 w5 i))])) t_
    refine XS.astore X10.here hx rfl (hb hby at_20) rfl rfl (l' := #[.val (.int p0), .val (.int p1), .val (.int i), .val (.int j), .val (.ref (PK w0 w1 w2 w3 w4 w5 i)), .unset, .unset]) rfl ?_
    show Steps p.tables e below (T10.setTop (mkF m 22 #[.val (.int p0), .val (.int p1), .val (.int i), .val (.int j), .val (.ref (PK w0 w1 w2 w3 w4 w5 i)), .unset, .unset] [])) t_
    refine XS.iloadN X10.here hx rfl (hb hby at_22) rfl ?_
    show Steps p.tables e below (T10.setTop (mkF m 23 #[.val (.int p0), .val (.int p1), .val (.int i), .val (.int j), .val (.ref (PK w0 w1 w2 w3 w4 w5 i)), .unset, .unset] [(.int j)])) t_
    exact k_
  obtain ⟨_, _, ⟨T11, L11, k11, n11⟩, -, X11, ⟨Lc11, hQ11, l11, y11, z11⟩, st11⟩ := Jvm.LawKit.callS X10 hx (y := (⟨"com/example/stylesheet_processor/stylesheetprocessor/model/AtomicTypeDerivesFromPinLaw", "pick", "(I)Lcom/example/stylesheet_processor/stylesheetprocessor/model/AtomicType;"⟩ : MethodName)) hown (mvT hZ (hw _ (List.mem_of_getElem? (i := 1) rfl))) (mvT hZ (hw _ (List.mem_of_getElem? (i := 2) rfl))) (mvT hZ (hw _ (List.mem_of_getElem? (i := 3) rfl))) (mvT hZ (hw _ (List.mem_of_getElem? (i := 4) rfl))) (by decide) (backOf (W := 0) (rm1 l Z a0 hw [] j w0 w1 w2 w3 w4 w5 h0 n0 Z0 S0 S1 S2 S3 S4 S5) hZ (hw _ (List.mem_of_getElem? (i := 4) rfl)) (hw _ (List.mem_of_getElem? (i := 3) rfl)) (by decide) (by decide)) (g := (mkF m 23 #[.val (.int p0), .val (.int p1), .val (.int i), .val (.int j), .val (.ref (PK w0 w1 w2 w3 w4 w5 i)), .unset, .unset] [(.int j)])) rfl (by rw [hml]; rfl) (argsL := [(.int j)]) (rest := []) (lenOf pd0 rfl) rfl (by show 2 * 0 + _ ≤ _; exact Nat.le_of_eq rfl) (hb hby at_23) (fun _ _ => ⟨rfl, e10, (by decide : 0 + 0 ≤ _), (by decide : 0 + 0 ≤ _)⟩)
  dsimp only [Pt.U, Pt.locs, Pt.cells, Pt.slots] at X11 l11 y11 z11 st11 hQ11
  subst l11 y11 z11
  obtain ⟨rfl, N11q, e11⟩ := hQ11
  have N11 := Fr.app N10 N11q
  refine Go.via st11 ?_
  show Go p.tables e below _ (T11.setTop (mkF m 26 #[.val (.int p0), .val (.int p1), .val (.int i), .val (.int j), .val (.ref (PK w0 w1 w2 w3 w4 w5 i)), .unset, .unset] [(.ref (PK w0 w1 w2 w3 w4 w5 j))]))
  refine Go.via (B := T11.setTop (mkF m 28 #[.val (.int p0), .val (.int p1), .val (.int i), .val (.int j), .val (.ref (PK w0 w1 w2 w3 w4 w5 i)), .val (.ref (PK w0 w1 w2 w3 w4 w5 j)), .unset] [])) (fun t_ k_ => ?_) ?_
  · show Steps p.tables e below (T11.setTop (mkF m 26 #[.val (.int p0), .val (.int p1), .val (.int i), .val (.int j), .val (.ref (PK w0 w1 w2 w3 w4 w5 i)), .unset, .unset] [(.ref (PK w0 w1 w2 w3 w4 w5 j))])) t_
    refine XS.astore X11.here hx rfl (hb hby at_26) rfl rfl (l' := #[.val (.int p0), .val (.int p1), .val (.int i), .val (.int j), .val (.ref (PK w0 w1 w2 w3 w4 w5 i)), .val (.ref (PK w0 w1 w2 w3 w4 w5 j)), .unset]) rfl ?_
    show Steps p.tables e below (T11.setTop (mkF m 28 #[.val (.int p0), .val (.int p1), .val (.int i), .val (.int j), .val (.ref (PK w0 w1 w2 w3 w4 w5 i)), .val (.ref (PK w0 w1 w2 w3 w4 w5 j)), .unset] [])) t_
    exact k_
  have hinj := fun i (hi : Six i) => own_inj hd hi hj6
  generalize hr : PK w0 w1 w2 w3 w4 w5 j = r at hinj ⊢
  have hi6' := hi6
  rcases hi6 with rfl | rfl | rfl | rfl | rfl | rfl
  · have hk := hinj (0 : Int32) hi6'
    have hk : w0 = r ↔ (0 : Int32) = j := hk
    show Go p.tables e below _ (T11.setTop (mkF m 28 #[.val (.int p0), .val (.int p1), .val (.int (0 : Int32)), .val (.int j), .val (.ref w0), .val (.ref r), .unset] []))
    refine Go.via (B := T11.setTop (mkF m 30 #[.val (.int p0), .val (.int p1), .val (.int (0 : Int32)), .val (.int j), .val (.ref w0), .val (.ref r), .unset] [(.int j), (.int (0 : Int32))])) (fun t_ k_ => ?_) ?_
    · show Steps p.tables e below (T11.setTop (mkF m 28 #[.val (.int p0), .val (.int p1), .val (.int (0 : Int32)), .val (.int j), .val (.ref w0), .val (.ref r), .unset] [])) t_
      refine XS.iloadN X11.here hx rfl (hb hby at_28) rfl ?_
      show Steps p.tables e below (T11.setTop (mkF m 29 #[.val (.int p0), .val (.int p1), .val (.int (0 : Int32)), .val (.int j), .val (.ref w0), .val (.ref r), .unset] [(.int (0 : Int32))])) t_
      refine XS.iloadN X11.here hx rfl (hb hby at_29) rfl ?_
      show Steps p.tables e below (T11.setTop (mkF m 30 #[.val (.int p0), .val (.int p1), .val (.int (0 : Int32)), .val (.int j), .val (.ref w0), .val (.ref r), .unset] [(.int j), (.int (0 : Int32))])) t_
      exact k_
    by_cases hij : (0 : Int32) = j
    · refine Go.via (B := T11.setTop (mkF m 43 #[.val (.int p0), .val (.int p1), .val (.int (0 : Int32)), .val (.int j), .val (.ref w0), .val (.ref r), .unset] [])) (fun t_ k_ => XS.icmpYes X11.here hx rfl (pc0 := 30) (pc' := 43) rfl (hb hby at_30) rfl ((teq hij).1) (by decide) (by decide) k_) ?_
      refine Go.via (B := T11.setTop (mkF m 54 #[.val (.int p0), .val (.int p1), .val (.int (0 : Int32)), .val (.int j), .val (.ref w0), .val (.ref r), .val (.int (1 : Int32))] [(.ref r), (.ref w0)])) (fun t_ k_ => ?_) ?_
      · show Steps p.tables e below (T11.setTop (mkF m 43 #[.val (.int p0), .val (.int p1), .val (.int (0 : Int32)), .val (.int j), .val (.ref w0), .val (.ref r), .unset] [])) t_
        refine XS.iconst X11.here hx rfl (hb hby at_43) ?_
        show Steps p.tables e below (T11.setTop (mkF m 44 #[.val (.int p0), .val (.int p1), .val (.int (0 : Int32)), .val (.int j), .val (.ref w0), .val (.ref r), .unset] [(.int (1 : Int32))])) t_
        refine XS.goto X11.here hx rfl (pc0 := 44) (pc' := 48) rfl (hb hby at_44) (by decide) (by decide) ?_
        show Steps p.tables e below (T11.setTop (mkF m 48 #[.val (.int p0), .val (.int p1), .val (.int (0 : Int32)), .val (.int j), .val (.ref w0), .val (.ref r), .unset] [(.int (1 : Int32))])) t_
        refine XS.istore X11.here hx rfl (hb hby at_48) rfl (l' := #[.val (.int p0), .val (.int p1), .val (.int (0 : Int32)), .val (.int j), .val (.ref w0), .val (.ref r), .val (.int (1 : Int32))]) rfl ?_
        show Steps p.tables e below (T11.setTop (mkF m 50 #[.val (.int p0), .val (.int p1), .val (.int (0 : Int32)), .val (.int j), .val (.ref w0), .val (.ref r), .val (.int (1 : Int32))] [])) t_
        refine XS.aload X11.here hx rfl (hb hby at_50) rfl rfl ?_
        show Steps p.tables e below (T11.setTop (mkF m 52 #[.val (.int p0), .val (.int p1), .val (.int (0 : Int32)), .val (.int j), .val (.ref w0), .val (.ref r), .val (.int (1 : Int32))] [(.ref w0)])) t_
        refine XS.aload X11.here hx rfl (hb hby at_52) rfl rfl ?_
        show Steps p.tables e below (T11.setTop (mkF m 54 #[.val (.int p0), .val (.int p1), .val (.int (0 : Int32)), .val (.int j), .val (.ref w0), .val (.ref r), .val (.int (1 : Int32))] [(.ref r), (.ref w0)])) t_
        exact k_
      obtain ⟨cq12, kq12, q12a, q12b, q12c⟩ := isOf hZ e11 E0
      obtain ⟨_, _, ⟨T12, L12, k12, n12⟩, -, X12, ⟨Lc12, hQ12, l12, y12, z12⟩, st12⟩ := X11.virtualBack hx (y := (⟨"com/example/stylesheet_processor/stylesheetprocessor/model/AtomicType", "derivesFrom", "(Lcom/example/stylesheet_processor/stylesheetprocessor/model/AtomicType;)Z"⟩ : MethodName)) (z := (⟨"com/example/stylesheet_processor/stylesheetprocessor/model/AtomicType", "derivesFrom", "(Lcom/example/stylesheet_processor/stylesheetprocessor/model/AtomicType;)Z"⟩ : MethodName)) hown (mvT hZ (hw _ (List.mem_of_getElem? (i := 10) rfl))) (mvT hZ (hw _ (List.mem_of_getElem? (i := 11) rfl))) (notFace_of_selects (args := #[]) (mvT hZ (hw _ (List.mem_of_getElem? (i := 13) rfl)))) (mvT hZ (hw _ (List.mem_of_getElem? (i := 13) rfl))) (mvT hZ (hw _ (List.mem_of_getElem? (i := 12) rfl))) (by decide) (backOf (W := 0) (rm2a l Z a0 hw [] w0 r  h0 n0 Z0 B0) hZ (hw _ (List.mem_of_getElem? (i := 14) rfl)) (hw _ (List.mem_of_getElem? (i := 6) rfl)) (by decide) (by decide)) q12a q12c (g := (mkF m 54 #[.val (.int p0), .val (.int p1), .val (.int (0 : Int32)), .val (.int j), .val (.ref w0), .val (.ref r), .val (.int (1 : Int32))] [(.ref r), (.ref w0)])) rfl (by rw [hml]; rfl) (Steps.refl _) (argsL := [(.ref r)]) (rest := []) (lenOf pd1 rfl) rfl (by show 2 * 0 + _ ≤ _; exact Nat.le_of_eq rfl) (hb hby at_54) (fun _ _ => ⟨rfl, e11, (by decide : 0 + 0 ≤ _), (by decide : 0 + 0 ≤ _)⟩)
      dsimp only [Pt.U, Pt.locs, Pt.cells, Pt.slots] at X12 l12 y12 z12 st12 hQ12
      subst l12 y12 z12
      obtain ⟨rfl, N12q, e12⟩ := hQ12
      have N12 := Fr.app N11 N12q
      refine Go.via (fun t_ k_ => st12.trans k_) ?_
      show Go p.tables e below _ (T12.setTop (mkF m 57 #[.val (.int p0), .val (.int p1), .val (.int (0 : Int32)), .val (.int j), .val (.ref w0), .val (.ref r), .val (.int (1 : Int32))] [(.int (if w0 = r then 1 else 0))]))
      refine Go.via (B := T12.setTop (mkF m 59 #[.val (.int p0), .val (.int p1), .val (.int (0 : Int32)), .val (.int j), .val (.ref w0), .val (.ref r), .val (.int (1 : Int32))] [(.int (1 : Int32)), (.int (if w0 = r then 1 else 0))])) (fun t_ k_ => ?_) ?_
      · show Steps p.tables e below (T12.setTop (mkF m 57 #[.val (.int p0), .val (.int p1), .val (.int (0 : Int32)), .val (.int j), .val (.ref w0), .val (.ref r), .val (.int (1 : Int32))] [(.int (if w0 = r then 1 else 0))])) t_
        refine XS.iload X12.here hx rfl (hb hby at_57) rfl ?_
        show Steps p.tables e below (T12.setTop (mkF m 59 #[.val (.int p0), .val (.int p1), .val (.int (0 : Int32)), .val (.int j), .val (.ref w0), .val (.ref r), .val (.int (1 : Int32))] [(.int (1 : Int32)), (.int (if w0 = r then 1 else 0))])) t_
        exact k_
      refine Go.via (B := T12.setTop (mkF m 62 #[.val (.int p0), .val (.int p1), .val (.int (0 : Int32)), .val (.int j), .val (.ref w0), .val (.ref r), .val (.int (1 : Int32))] [])) (fun t_ k_ => XS.icmpNo X12.here hx rfl (hb hby at_59) rfl ((teq (if_pos (hk.mpr hij))).2) k_) ?_
      refine Go.via (B := T12.setTop (mkF m 67 #[.val (.int p0), .val (.int p1), .val (.int (0 : Int32)), .val (.int j), .val (.ref w0), .val (.ref r), .val (.int (1 : Int32))] [(.int (1 : Int32))])) (fun t_ k_ => ?_) ?_
      · show Steps p.tables e below (T12.setTop (mkF m 62 #[.val (.int p0), .val (.int p1), .val (.int (0 : Int32)), .val (.int j), .val (.ref w0), .val (.ref r), .val (.int (1 : Int32))] [])) t_
        refine XS.iconst X12.here hx rfl (hb hby at_62) ?_
        show Steps p.tables e below (T12.setTop (mkF m 63 #[.val (.int p0), .val (.int p1), .val (.int (0 : Int32)), .val (.int j), .val (.ref w0), .val (.ref r), .val (.int (1 : Int32))] [(.int (1 : Int32))])) t_
        refine XS.goto X12.here hx rfl (pc0 := 63) (pc' := 67) rfl (hb hby at_63) (by decide) (by decide) ?_
        show Steps p.tables e below (T12.setTop (mkF m 67 #[.val (.int p0), .val (.int p1), .val (.int (0 : Int32)), .val (.int j), .val (.ref w0), .val (.ref r), .val (.int (1 : Int32))] [(.int (1 : Int32))])) t_
        exact k_
      exact Go.leave X12 hlk (v := (some (.int (1 : Int32)))) (fun h => by rw [hrt] at h; cases h) (fun fs hr => retN X12 hx (t := .boolean) hrt (by simp) (hb hby at_67) hr) (by decide) (by decide) (⟨rfl, N12⟩)
    · refine Go.via (B := T11.setTop (mkF m 33 #[.val (.int p0), .val (.int p1), .val (.int (0 : Int32)), .val (.int j), .val (.ref w0), .val (.ref r), .unset] [])) (fun t_ k_ => XS.icmpNo X11.here hx rfl (hb hby at_30) rfl ((feq hij).1) k_) ?_
      refine Go.via (B := T11.setTop (mkF m 35 #[.val (.int p0), .val (.int p1), .val (.int (0 : Int32)), .val (.int j), .val (.ref w0), .val (.ref r), .unset] [(.int (4 : Int32)), (.int (0 : Int32))])) (fun t_ k_ => ?_) ?_
      · show Steps p.tables e below (T11.setTop (mkF m 33 #[.val (.int p0), .val (.int p1), .val (.int (0 : Int32)), .val (.int j), .val (.ref w0), .val (.ref r), .unset] [])) t_
        refine XS.iloadN X11.here hx rfl (hb hby at_33) rfl ?_
        show Steps p.tables e below (T11.setTop (mkF m 34 #[.val (.int p0), .val (.int p1), .val (.int (0 : Int32)), .val (.int j), .val (.ref w0), .val (.ref r), .unset] [(.int (0 : Int32))])) t_
        refine XS.iconst X11.here hx rfl (hb hby at_34) ?_
        show Steps p.tables e below (T11.setTop (mkF m 35 #[.val (.int p0), .val (.int p1), .val (.int (0 : Int32)), .val (.int j), .val (.ref w0), .val (.ref r), .unset] [(.int (4 : Int32)), (.int (0 : Int32))])) t_
        exact k_
      refine Go.via (B := T11.setTop (mkF m 47 #[.val (.int p0), .val (.int p1), .val (.int (0 : Int32)), .val (.int j), .val (.ref w0), .val (.ref r), .unset] [])) (fun t_ k_ => XS.icmpYes X11.here hx rfl (pc0 := 35) (pc' := 47) rfl (hb hby at_35) rfl ((feq (by decide : ¬ (0 : Int32) = (4 : Int32))).2) (by decide) (by decide) k_) ?_
      refine Go.via (B := T11.setTop (mkF m 54 #[.val (.int p0), .val (.int p1), .val (.int (0 : Int32)), .val (.int j), .val (.ref w0), .val (.ref r), .val (.int (0 : Int32))] [(.ref r), (.ref w0)])) (fun t_ k_ => ?_) ?_
      · show Steps p.tables e below (T11.setTop (mkF m 47 #[.val (.int p0), .val (.int p1), .val (.int (0 : Int32)), .val (.int j), .val (.ref w0), .val (.ref r), .unset] [])) t_
        refine XS.iconst X11.here hx rfl (hb hby at_47) ?_
        show Steps p.tables e below (T11.setTop (mkF m 48 #[.val (.int p0), .val (.int p1), .val (.int (0 : Int32)), .val (.int j), .val (.ref w0), .val (.ref r), .unset] [(.int (0 : Int32))])) t_
        refine XS.istore X11.here hx rfl (hb hby at_48) rfl (l' := #[.val (.int p0), .val (.int p1), .val (.int (0 : Int32)), .val (.int j), .val (.ref w0), .val (.ref r), .val (.int (0 : Int32))]) rfl ?_
        show Steps p.tables e below (T11.setTop (mkF m 50 #[.val (.int p0), .val (.int p1), .val (.int (0 : Int32)), .val (.int j), .val (.ref w0), .val (.ref r), .val (.int (0 : Int32))] [])) t_
        refine XS.aload X11.here hx rfl (hb hby at_50) rfl rfl ?_
        show Steps p.tables e below (T11.setTop (mkF m 52 #[.val (.int p0), .val (.int p1), .val (.int (0 : Int32)), .val (.int j), .val (.ref w0), .val (.ref r), .val (.int (0 : Int32))] [(.ref w0)])) t_
        refine XS.aload X11.here hx rfl (hb hby at_52) rfl rfl ?_
        show Steps p.tables e below (T11.setTop (mkF m 54 #[.val (.int p0), .val (.int p1), .val (.int (0 : Int32)), .val (.int j), .val (.ref w0), .val (.ref r), .val (.int (0 : Int32))] [(.ref r), (.ref w0)])) t_
        exact k_
      obtain ⟨cq13, kq13, q13a, q13b, q13c⟩ := isOf hZ e11 E0
      obtain ⟨_, _, ⟨T13, L13, k13, n13⟩, -, X13, ⟨Lc13, hQ13, l13, y13, z13⟩, st13⟩ := X11.virtualBack hx (y := (⟨"com/example/stylesheet_processor/stylesheetprocessor/model/AtomicType", "derivesFrom", "(Lcom/example/stylesheet_processor/stylesheetprocessor/model/AtomicType;)Z"⟩ : MethodName)) (z := (⟨"com/example/stylesheet_processor/stylesheetprocessor/model/AtomicType", "derivesFrom", "(Lcom/example/stylesheet_processor/stylesheetprocessor/model/AtomicType;)Z"⟩ : MethodName)) hown (mvT hZ (hw _ (List.mem_of_getElem? (i := 10) rfl))) (mvT hZ (hw _ (List.mem_of_getElem? (i := 11) rfl))) (notFace_of_selects (args := #[]) (mvT hZ (hw _ (List.mem_of_getElem? (i := 13) rfl)))) (mvT hZ (hw _ (List.mem_of_getElem? (i := 13) rfl))) (mvT hZ (hw _ (List.mem_of_getElem? (i := 12) rfl))) (by decide) (backOf (W := 0) (rm2a l Z a0 hw [] w0 r  h0 n0 Z0 B0) hZ (hw _ (List.mem_of_getElem? (i := 14) rfl)) (hw _ (List.mem_of_getElem? (i := 6) rfl)) (by decide) (by decide)) q13a q13c (g := (mkF m 54 #[.val (.int p0), .val (.int p1), .val (.int (0 : Int32)), .val (.int j), .val (.ref w0), .val (.ref r), .val (.int (0 : Int32))] [(.ref r), (.ref w0)])) rfl (by rw [hml]; rfl) (Steps.refl _) (argsL := [(.ref r)]) (rest := []) (lenOf pd1 rfl) rfl (by show 2 * 0 + _ ≤ _; exact Nat.le_of_eq rfl) (hb hby at_54) (fun _ _ => ⟨rfl, e11, (by decide : 0 + 0 ≤ _), (by decide : 0 + 0 ≤ _)⟩)
      dsimp only [Pt.U, Pt.locs, Pt.cells, Pt.slots] at X13 l13 y13 z13 st13 hQ13
      subst l13 y13 z13
      obtain ⟨rfl, N13q, e13⟩ := hQ13
      have N13 := Fr.app N11 N13q
      refine Go.via (fun t_ k_ => st13.trans k_) ?_
      show Go p.tables e below _ (T13.setTop (mkF m 57 #[.val (.int p0), .val (.int p1), .val (.int (0 : Int32)), .val (.int j), .val (.ref w0), .val (.ref r), .val (.int (0 : Int32))] [(.int (if w0 = r then 1 else 0))]))
      refine Go.via (B := T13.setTop (mkF m 59 #[.val (.int p0), .val (.int p1), .val (.int (0 : Int32)), .val (.int j), .val (.ref w0), .val (.ref r), .val (.int (0 : Int32))] [(.int (0 : Int32)), (.int (if w0 = r then 1 else 0))])) (fun t_ k_ => ?_) ?_
      · show Steps p.tables e below (T13.setTop (mkF m 57 #[.val (.int p0), .val (.int p1), .val (.int (0 : Int32)), .val (.int j), .val (.ref w0), .val (.ref r), .val (.int (0 : Int32))] [(.int (if w0 = r then 1 else 0))])) t_
        refine XS.iload X13.here hx rfl (hb hby at_57) rfl ?_
        show Steps p.tables e below (T13.setTop (mkF m 59 #[.val (.int p0), .val (.int p1), .val (.int (0 : Int32)), .val (.int j), .val (.ref w0), .val (.ref r), .val (.int (0 : Int32))] [(.int (0 : Int32)), (.int (if w0 = r then 1 else 0))])) t_
        exact k_
      refine Go.via (B := T13.setTop (mkF m 62 #[.val (.int p0), .val (.int p1), .val (.int (0 : Int32)), .val (.int j), .val (.ref w0), .val (.ref r), .val (.int (0 : Int32))] [])) (fun t_ k_ => XS.icmpNo X13.here hx rfl (hb hby at_59) rfl ((teq (if_neg (fun u => hij (hk.mp u)))).2) k_) ?_
      refine Go.via (B := T13.setTop (mkF m 67 #[.val (.int p0), .val (.int p1), .val (.int (0 : Int32)), .val (.int j), .val (.ref w0), .val (.ref r), .val (.int (0 : Int32))] [(.int (1 : Int32))])) (fun t_ k_ => ?_) ?_
      · show Steps p.tables e below (T13.setTop (mkF m 62 #[.val (.int p0), .val (.int p1), .val (.int (0 : Int32)), .val (.int j), .val (.ref w0), .val (.ref r), .val (.int (0 : Int32))] [])) t_
        refine XS.iconst X13.here hx rfl (hb hby at_62) ?_
        show Steps p.tables e below (T13.setTop (mkF m 63 #[.val (.int p0), .val (.int p1), .val (.int (0 : Int32)), .val (.int j), .val (.ref w0), .val (.ref r), .val (.int (0 : Int32))] [(.int (1 : Int32))])) t_
        refine XS.goto X13.here hx rfl (pc0 := 63) (pc' := 67) rfl (hb hby at_63) (by decide) (by decide) ?_
        show Steps p.tables e below (T13.setTop (mkF m 67 #[.val (.int p0), .val (.int p1), .val (.int (0 : Int32)), .val (.int j), .val (.ref w0), .val (.ref r), .val (.int (0 : Int32))] [(.int (1 : Int32))])) t_
        exact k_
      exact Go.leave X13 hlk (v := (some (.int (1 : Int32)))) (fun h => by rw [hrt] at h; cases h) (fun fs hr => retN X13 hx (t := .boolean) hrt (by simp) (hb hby at_67) hr) (by decide) (by decide) (⟨rfl, N13⟩)
  · have hk := hinj (1 : Int32) hi6'
    have hk : w1 = r ↔ (1 : Int32) = j := hk
    show Go p.tables e below _ (T11.setTop (mkF m 28 #[.val (.int p0), .val (.int p1), .val (.int (1 : Int32)), .val (.int j), .val (.ref w1), .val (.ref r), .unset] []))
    refine Go.via (B := T11.setTop (mkF m 30 #[.val (.int p0), .val (.int p1), .val (.int (1 : Int32)), .val (.int j), .val (.ref w1), .val (.ref r), .unset] [(.int j), (.int (1 : Int32))])) (fun t_ k_ => ?_) ?_
    · show Steps p.tables e below (T11.setTop (mkF m 28 #[.val (.int p0), .val (.int p1), .val (.int (1 : Int32)), .val (.int j), .val (.ref w1), .val (.ref r), .unset] [])) t_
      refine XS.iloadN X11.here hx rfl (hb hby at_28) rfl ?_
      show Steps p.tables e below (T11.setTop (mkF m 29 #[.val (.int p0), .val (.int p1), .val (.int (1 : Int32)), .val (.int j), .val (.ref w1), .val (.ref r), .unset] [(.int (1 : Int32))])) t_
      refine XS.iloadN X11.here hx rfl (hb hby at_29) rfl ?_
      show Steps p.tables e below (T11.setTop (mkF m 30 #[.val (.int p0), .val (.int p1), .val (.int (1 : Int32)), .val (.int j), .val (.ref w1), .val (.ref r), .unset] [(.int j), (.int (1 : Int32))])) t_
      exact k_
    by_cases hij : (1 : Int32) = j
    · refine Go.via (B := T11.setTop (mkF m 43 #[.val (.int p0), .val (.int p1), .val (.int (1 : Int32)), .val (.int j), .val (.ref w1), .val (.ref r), .unset] [])) (fun t_ k_ => XS.icmpYes X11.here hx rfl (pc0 := 30) (pc' := 43) rfl (hb hby at_30) rfl ((teq hij).1) (by decide) (by decide) k_) ?_
      refine Go.via (B := T11.setTop (mkF m 54 #[.val (.int p0), .val (.int p1), .val (.int (1 : Int32)), .val (.int j), .val (.ref w1), .val (.ref r), .val (.int (1 : Int32))] [(.ref r), (.ref w1)])) (fun t_ k_ => ?_) ?_
      · show Steps p.tables e below (T11.setTop (mkF m 43 #[.val (.int p0), .val (.int p1), .val (.int (1 : Int32)), .val (.int j), .val (.ref w1), .val (.ref r), .unset] [])) t_
        refine XS.iconst X11.here hx rfl (hb hby at_43) ?_
        show Steps p.tables e below (T11.setTop (mkF m 44 #[.val (.int p0), .val (.int p1), .val (.int (1 : Int32)), .val (.int j), .val (.ref w1), .val (.ref r), .unset] [(.int (1 : Int32))])) t_
        refine XS.goto X11.here hx rfl (pc0 := 44) (pc' := 48) rfl (hb hby at_44) (by decide) (by decide) ?_
        show Steps p.tables e below (T11.setTop (mkF m 48 #[.val (.int p0), .val (.int p1), .val (.int (1 : Int32)), .val (.int j), .val (.ref w1), .val (.ref r), .unset] [(.int (1 : Int32))])) t_
        refine XS.istore X11.here hx rfl (hb hby at_48) rfl (l' := #[.val (.int p0), .val (.int p1), .val (.int (1 : Int32)), .val (.int j), .val (.ref w1), .val (.ref r), .val (.int (1 : Int32))]) rfl ?_
        show Steps p.tables e below (T11.setTop (mkF m 50 #[.val (.int p0), .val (.int p1), .val (.int (1 : Int32)), .val (.int j), .val (.ref w1), .val (.ref r), .val (.int (1 : Int32))] [])) t_
        refine XS.aload X11.here hx rfl (hb hby at_50) rfl rfl ?_
        show Steps p.tables e below (T11.setTop (mkF m 52 #[.val (.int p0), .val (.int p1), .val (.int (1 : Int32)), .val (.int j), .val (.ref w1), .val (.ref r), .val (.int (1 : Int32))] [(.ref w1)])) t_
        refine XS.aload X11.here hx rfl (hb hby at_52) rfl rfl ?_
        show Steps p.tables e below (T11.setTop (mkF m 54 #[.val (.int p0), .val (.int p1), .val (.int (1 : Int32)), .val (.int j), .val (.ref w1), .val (.ref r), .val (.int (1 : Int32))] [(.ref r), (.ref w1)])) t_
        exact k_
      obtain ⟨cq14, kq14, q14a, q14b, q14c⟩ := isOf hZ e11 E1
      obtain ⟨_, _, ⟨T14, L14, k14, n14⟩, -, X14, ⟨Lc14, hQ14, l14, y14, z14⟩, st14⟩ := X11.virtualBack hx (y := (⟨"com/example/stylesheet_processor/stylesheetprocessor/model/AtomicType", "derivesFrom", "(Lcom/example/stylesheet_processor/stylesheetprocessor/model/AtomicType;)Z"⟩ : MethodName)) (z := (⟨"com/example/stylesheet_processor/stylesheetprocessor/model/AtomicType", "derivesFrom", "(Lcom/example/stylesheet_processor/stylesheetprocessor/model/AtomicType;)Z"⟩ : MethodName)) hown (mvT hZ (hw _ (List.mem_of_getElem? (i := 10) rfl))) (mvT hZ (hw _ (List.mem_of_getElem? (i := 11) rfl))) (notFace_of_selects (args := #[]) (mvT hZ (hw _ (List.mem_of_getElem? (i := 30) rfl)))) (mvT hZ (hw _ (List.mem_of_getElem? (i := 30) rfl))) (mvT hZ (hw _ (List.mem_of_getElem? (i := 12) rfl))) (by decide) (backOf (W := 0) (rm2a l Z a0 hw [] w1 r  h0 n0 Z0 B1) hZ (hw _ (List.mem_of_getElem? (i := 14) rfl)) (hw _ (List.mem_of_getElem? (i := 6) rfl)) (by decide) (by decide)) q14a q14c (g := (mkF m 54 #[.val (.int p0), .val (.int p1), .val (.int (1 : Int32)), .val (.int j), .val (.ref w1), .val (.ref r), .val (.int (1 : Int32))] [(.ref r), (.ref w1)])) rfl (by rw [hml]; rfl) (Steps.refl _) (argsL := [(.ref r)]) (rest := []) (lenOf pd1 rfl) rfl (by show 2 * 0 + _ ≤ _; exact Nat.le_of_eq rfl) (hb hby at_54) (fun _ _ => ⟨rfl, e11, (by decide : 0 + 0 ≤ _), (by decide : 0 + 0 ≤ _)⟩)
      dsimp only [Pt.U, Pt.locs, Pt.cells, Pt.slots] at X14 l14 y14 z14 st14 hQ14
      subst l14 y14 z14
      obtain ⟨rfl, N14q, e14⟩ := hQ14
      have N14 := Fr.app N11 N14q
      refine Go.via (fun t_ k_ => st14.trans k_) ?_
      show Go p.tables e below _ (T14.setTop (mkF m 57 #[.val (.int p0), .val (.int p1), .val (.int (1 : Int32)), .val (.int j), .val (.ref w1), .val (.ref r), .val (.int (1 : Int32))] [(.int (if w1 = r then 1 else 0))]))
      refine Go.via (B := T14.setTop (mkF m 59 #[.val (.int p0), .val (.int p1), .val (.int (1 : Int32)), .val (.int j), .val (.ref w1), .val (.ref r), .val (.int (1 : Int32))] [(.int (1 : Int32)), (.int (if w1 = r then 1 else 0))])) (fun t_ k_ => ?_) ?_
      · show Steps p.tables e below (T14.setTop (mkF m 57 #[.val (.int p0), .val (.int p1), .val (.int (1 : Int32)), .val (.int j), .val (.ref w1), .val (.ref r), .val (.int (1 : Int32))] [(.int (if w1 = r then 1 else 0))])) t_
        refine XS.iload X14.here hx rfl (hb hby at_57) rfl ?_
        show Steps p.tables e below (T14.setTop (mkF m 59 #[.val (.int p0), .val (.int p1), .val (.int (1 : Int32)), .val (.int j), .val (.ref w1), .val (.ref r), .val (.int (1 : Int32))] [(.int (1 : Int32)), (.int (if w1 = r then 1 else 0))])) t_
        exact k_
      refine Go.via (B := T14.setTop (mkF m 62 #[.val (.int p0), .val (.int p1), .val (.int (1 : Int32)), .val (.int j), .val (.ref w1), .val (.ref r), .val (.int (1 : Int32))] [])) (fun t_ k_ => XS.icmpNo X14.here hx rfl (hb hby at_59) rfl ((teq (if_pos (hk.mpr hij))).2) k_) ?_
      refine Go.via (B := T14.setTop (mkF m 67 #[.val (.int p0), .val (.int p1), .val (.int (1 : Int32)), .val (.int j), .val (.ref w1), .val (.ref r), .val (.int (1 : Int32))] [(.int (1 : Int32))])) (fun t_ k_ => ?_) ?_
      · show Steps p.tables e below (T14.setTop (mkF m 62 #[.val (.int p0), .val (.int p1), .val (.int (1 : Int32)), .val (.int j), .val (.ref w1), .val (.ref r), .val (.int (1 : Int32))] [])) t_
        refine XS.iconst X14.here hx rfl (hb hby at_62) ?_
        show Steps p.tables e below (T14.setTop (mkF m 63 #[.val (.int p0), .val (.int p1), .val (.int (1 : Int32)), .val (.int j), .val (.ref w1), .val (.ref r), .val (.int (1 : Int32))] [(.int (1 : Int32))])) t_
        refine XS.goto X14.here hx rfl (pc0 := 63) (pc' := 67) rfl (hb hby at_63) (by decide) (by decide) ?_
        show Steps p.tables e below (T14.setTop (mkF m 67 #[.val (.int p0), .val (.int p1), .val (.int (1 : Int32)), .val (.int j), .val (.ref w1), .val (.ref r), .val (.int (1 : Int32))] [(.int (1 : Int32))])) t_
        exact k_
      exact Go.leave X14 hlk (v := (some (.int (1 : Int32)))) (fun h => by rw [hrt] at h; cases h) (fun fs hr => retN X14 hx (t := .boolean) hrt (by simp) (hb hby at_67) hr) (by decide) (by decide) (⟨rfl, N14⟩)
    · refine Go.via (B := T11.setTop (mkF m 33 #[.val (.int p0), .val (.int p1), .val (.int (1 : Int32)), .val (.int j), .val (.ref w1), .val (.ref r), .unset] [])) (fun t_ k_ => XS.icmpNo X11.here hx rfl (hb hby at_30) rfl ((feq hij).1) k_) ?_
      refine Go.via (B := T11.setTop (mkF m 35 #[.val (.int p0), .val (.int p1), .val (.int (1 : Int32)), .val (.int j), .val (.ref w1), .val (.ref r), .unset] [(.int (4 : Int32)), (.int (1 : Int32))])) (fun t_ k_ => ?_) ?_
      · show Steps p.tables e below (T11.setTop (mkF m 33 #[.val (.int p0), .val (.int p1), .val (.int (1 : Int32)), .val (.int j), .val (.ref w1), .val (.ref r), .unset] [])) t_
        refine XS.iloadN X11.here hx rfl (hb hby at_33) rfl ?_
        show Steps p.tables e below (T11.setTop (mkF m 34 #[.val (.int p0), .val (.int p1), .val (.int (1 : Int32)), .val (.int j), .val (.ref w1), .val (.ref r), .unset] [(.int (1 : Int32))])) t_
        refine XS.iconst X11.here hx rfl (hb hby at_34) ?_
        show Steps p.tables e below (T11.setTop (mkF m 35 #[.val (.int p0), .val (.int p1), .val (.int (1 : Int32)), .val (.int j), .val (.ref w1), .val (.ref r), .unset] [(.int (4 : Int32)), (.int (1 : Int32))])) t_
        exact k_
      refine Go.via (B := T11.setTop (mkF m 47 #[.val (.int p0), .val (.int p1), .val (.int (1 : Int32)), .val (.int j), .val (.ref w1), .val (.ref r), .unset] [])) (fun t_ k_ => XS.icmpYes X11.here hx rfl (pc0 := 35) (pc' := 47) rfl (hb hby at_35) rfl ((feq (by decide : ¬ (1 : Int32) = (4 : Int32))).2) (by decide) (by decide) k_) ?_
      refine Go.via (B := T11.setTop (mkF m 54 #[.val (.int p0), .val (.int p1), .val (.int (1 : Int32)), .val (.int j), .val (.ref w1), .val (.ref r), .val (.int (0 : Int32))] [(.ref r), (.ref w1)])) (fun t_ k_ => ?_) ?_
      · show Steps p.tables e below (T11.setTop (mkF m 47 #[.val (.int p0), .val (.int p1), .val (.int (1 : Int32)), .val (.int j), .val (.ref w1), .val (.ref r), .unset] [])) t_
        refine XS.iconst X11.here hx rfl (hb hby at_47) ?_
        show Steps p.tables e below (T11.setTop (mkF m 48 #[.val (.int p0), .val (.int p1), .val (.int (1 : Int32)), .val (.int j), .val (.ref w1), .val (.ref r), .unset] [(.int (0 : Int32))])) t_
        refine XS.istore X11.here hx rfl (hb hby at_48) rfl (l' := #[.val (.int p0), .val (.int p1), .val (.int (1 : Int32)), .val (.int j), .val (.ref w1), .val (.ref r), .val (.int (0 : Int32))]) rfl ?_
        show Steps p.tables e below (T11.setTop (mkF m 50 #[.val (.int p0), .val (.int p1), .val (.int (1 : Int32)), .val (.int j), .val (.ref w1), .val (.ref r), .val (.int (0 : Int32))] [])) t_
        refine XS.aload X11.here hx rfl (hb hby at_50) rfl rfl ?_
        show Steps p.tables e below (T11.setTop (mkF m 52 #[.val (.int p0), .val (.int p1), .val (.int (1 : Int32)), .val (.int j), .val (.ref w1), .val (.ref r), .val (.int (0 : Int32))] [(.ref w1)])) t_
        refine XS.aload X11.here hx rfl (hb hby at_52) rfl rfl ?_
        show Steps p.tables e below (T11.setTop (mkF m 54 #[.val (.int p0), .val (.int p1), .val (.int (1 : Int32)), .val (.int j), .val (.ref w1), .val (.ref r), .val (.int (0 : Int32))] [(.ref r), (.ref w1)])) t_
        exact k_
      obtain ⟨cq15, kq15, q15a, q15b, q15c⟩ := isOf hZ e11 E1
      obtain ⟨_, _, ⟨T15, L15, k15, n15⟩, -, X15, ⟨Lc15, hQ15, l15, y15, z15⟩, st15⟩ := X11.virtualBack hx (y := (⟨"com/example/stylesheet_processor/stylesheetprocessor/model/AtomicType", "derivesFrom", "(Lcom/example/stylesheet_processor/stylesheetprocessor/model/AtomicType;)Z"⟩ : MethodName)) (z := (⟨"com/example/stylesheet_processor/stylesheetprocessor/model/AtomicType", "derivesFrom", "(Lcom/example/stylesheet_processor/stylesheetprocessor/model/AtomicType;)Z"⟩ : MethodName)) hown (mvT hZ (hw _ (List.mem_of_getElem? (i := 10) rfl))) (mvT hZ (hw _ (List.mem_of_getElem? (i := 11) rfl))) (notFace_of_selects (args := #[]) (mvT hZ (hw _ (List.mem_of_getElem? (i := 30) rfl)))) (mvT hZ (hw _ (List.mem_of_getElem? (i := 30) rfl))) (mvT hZ (hw _ (List.mem_of_getElem? (i := 12) rfl))) (by decide) (backOf (W := 0) (rm2a l Z a0 hw [] w1 r  h0 n0 Z0 B1) hZ (hw _ (List.mem_of_getElem? (i := 14) rfl)) (hw _ (List.mem_of_getElem? (i := 6) rfl)) (by decide) (by decide)) q15a q15c (g := (mkF m 54 #[.val (.int p0), .val (.int p1), .val (.int (1 : Int32)), .val (.int j), .val (.ref w1), .val (.ref r), .val (.int (0 : Int32))] [(.ref r), (.ref w1)])) rfl (by rw [hml]; rfl) (Steps.refl _) (argsL := [(.ref r)]) (rest := []) (lenOf pd1 rfl) rfl (by show 2 * 0 + _ ≤ _; exact Nat.le_of_eq rfl) (hb hby at_54) (fun _ _ => ⟨rfl, e11, (by decide : 0 + 0 ≤ _), (by decide : 0 + 0 ≤ _)⟩)
      dsimp only [Pt.U, Pt.locs, Pt.cells, Pt.slots] at X15 l15 y15 z15 st15 hQ15
      subst l15 y15 z15
      obtain ⟨rfl, N15q, e15⟩ := hQ15
      have N15 := Fr.app N11 N15q
      refine Go.via (fun t_ k_ => st15.trans k_) ?_
      show Go p.tables e below _ (T15.setTop (mkF m 57 #[.val (.int p0), .val (.int p1), .val (.int (1 : Int32)), .val (.int j), .val (.ref w1), .val (.ref r), .val (.int (0 : Int32))] [(.int (if w1 = r then 1 else 0))]))
      refine Go.via (B := T15.setTop (mkF m 59 #[.val (.int p0), .val (.int p1), .val (.int (1 : Int32)), .val (.int j), .val (.ref w1), .val (.ref r), .val (.int (0 : Int32))] [(.int (0 : Int32)), (.int (if w1 = r then 1 else 0))])) (fun t_ k_ => ?_) ?_
      · show Steps p.tables e below (T15.setTop (mkF m 57 #[.val (.int p0), .val (.int p1), .val (.int (1 : Int32)), .val (.int j), .val (.ref w1), .val (.ref r), .val (.int (0 : Int32))] [(.int (if w1 = r then 1 else 0))])) t_
        refine XS.iload X15.here hx rfl (hb hby at_57) rfl ?_
        show Steps p.tables e below (T15.setTop (mkF m 59 #[.val (.int p0), .val (.int p1), .val (.int (1 : Int32)), .val (.int j), .val (.ref w1), .val (.ref r), .val (.int (0 : Int32))] [(.int (0 : Int32)), (.int (if w1 = r then 1 else 0))])) t_
        exact k_
      refine Go.via (B := T15.setTop (mkF m 62 #[.val (.int p0), .val (.int p1), .val (.int (1 : Int32)), .val (.int j), .val (.ref w1), .val (.ref r), .val (.int (0 : Int32))] [])) (fun t_ k_ => XS.icmpNo X15.here hx rfl (hb hby at_59) rfl ((teq (if_neg (fun u => hij (hk.mp u)))).2) k_) ?_
      refine Go.via (B := T15.setTop (mkF m 67 #[.val (.int p0), .val (.int p1), .val (.int (1 : Int32)), .val (.int j), .val (.ref w1), .val (.ref r), .val (.int (0 : Int32))] [(.int (1 : Int32))])) (fun t_ k_ => ?_) ?_
      · show Steps p.tables e below (T15.setTop (mkF m 62 #[.val (.int p0), .val (.int p1), .val (.int (1 : Int32)), .val (.int j), .val (.ref w1), .val (.ref r), .val (.int (0 : Int32))] [])) t_
        refine XS.iconst X15.here hx rfl (hb hby at_62) ?_
        show Steps p.tables e below (T15.setTop (mkF m 63 #[.val (.int p0), .val (.int p1), .val (.int (1 : Int32)), .val (.int j), .val (.ref w1), .val (.ref r), .val (.int (0 : Int32))] [(.int (1 : Int32))])) t_
        refine XS.goto X15.here hx rfl (pc0 := 63) (pc' := 67) rfl (hb hby at_63) (by decide) (by decide) ?_
        show Steps p.tables e below (T15.setTop (mkF m 67 #[.val (.int p0), .val (.int p1), .val (.int (1 : Int32)), .val (.int j), .val (.ref w1), .val (.ref r), .val (.int (0 : Int32))] [(.int (1 : Int32))])) t_
        exact k_
      exact Go.leave X15 hlk (v := (some (.int (1 : Int32)))) (fun h => by rw [hrt] at h; cases h) (fun fs hr => retN X15 hx (t := .boolean) hrt (by simp) (hb hby at_67) hr) (by decide) (by decide) (⟨rfl, N15⟩)
  · have hk := hinj (2 : Int32) hi6'
    have hk : w2 = r ↔ (2 : Int32) = j := hk
    show Go p.tables e below _ (T11.setTop (mkF m 28 #[.val (.int p0), .val (.int p1), .val (.int (2 : Int32)), .val (.int j), .val (.ref w2), .val (.ref r), .unset] []))
    refine Go.via (B := T11.setTop (mkF m 30 #[.val (.int p0), .val (.int p1), .val (.int (2 : Int32)), .val (.int j), .val (.ref w2), .val (.ref r), .unset] [(.int j), (.int (2 : Int32))])) (fun t_ k_ => ?_) ?_
    · show Steps p.tables e below (T11.setTop (mkF m 28 #[.val (.int p0), .val (.int p1), .val (.int (2 : Int32)), .val (.int j), .val (.ref w2), .val (.ref r), .unset] [])) t_
      refine XS.iloadN X11.here hx rfl (hb hby at_28) rfl ?_
      show Steps p.tables e below (T11.setTop (mkF m 29 #[.val (.int p0), .val (.int p1), .val (.int (2 : Int32)), .val (.int j), .val (.ref w2), .val (.ref r), .unset] [(.int (2 : Int32))])) t_
      refine XS.iloadN X11.here hx rfl (hb hby at_29) rfl ?_
      show Steps p.tables e below (T11.setTop (mkF m 30 #[.val (.int p0), .val (.int p1), .val (.int (2 : Int32)), .val (.int j), .val (.ref w2), .val (.ref r), .unset] [(.int j), (.int (2 : Int32))])) t_
      exact k_
    by_cases hij : (2 : Int32) = j
    · refine Go.via (B := T11.setTop (mkF m 43 #[.val (.int p0), .val (.int p1), .val (.int (2 : Int32)), .val (.int j), .val (.ref w2), .val (.ref r), .unset] [])) (fun t_ k_ => XS.icmpYes X11.here hx rfl (pc0 := 30) (pc' := 43) rfl (hb hby at_30) rfl ((teq hij).1) (by decide) (by decide) k_) ?_
      refine Go.via (B := T11.setTop (mkF m 54 #[.val (.int p0), .val (.int p1), .val (.int (2 : Int32)), .val (.int j), .val (.ref w2), .val (.ref r), .val (.int (1 : Int32))] [(.ref r), (.ref w2)])) (fun t_ k_ => ?_) ?_
      · show Steps p.tables e below (T11.setTop (mkF m 43 #[.val (.int p0), .val (.int p1), .val (.int (2 : Int32)), .val (.int j), .val (.ref w2), .val (.ref r), .unset] [])) t_
        refine XS.iconst X11.here hx rfl (hb hby at_43) ?_
        show Steps p.tables e below (T11.setTop (mkF m 44 #[.val (.int p0), .val (.int p1), .val (.int (2 : Int32)), .val (.int j), .val (.ref w2), .val (.ref r), .unset] [(.int (1 : Int32))])) t_
        refine XS.goto X11.here hx rfl (pc0 := 44) (pc' := 48) rfl (hb hby at_44) (by decide) (by decide) ?_
        show Steps p.tables e below (T11.setTop (mkF m 48 #[.val (.int p0), .val (.int p1), .val (.int (2 : Int32)), .val (.int j), .val (.ref w2), .val (.ref r), .unset] [(.int (1 : Int32))])) t_
        refine XS.istore X11.here hx rfl (hb hby at_48) rfl (l' := #[.val (.int p0), .val (.int p1), .val (.int (2 : Int32)), .val (.int j), .val (.ref w2), .val (.ref r), .val (.int (1 : Int32))]) rfl ?_
        show Steps p.tables e below (T11.setTop (mkF m 50 #[.val (.int p0), .val (.int p1), .val (.int (2 : Int32)), .val (.int j), .val (.ref w2), .val (.ref r), .val (.int (1 : Int32))] [])) t_
        refine XS.aload X11.here hx rfl (hb hby at_50) rfl rfl ?_
        show Steps p.tables e below (T11.setTop (mkF m 52 #[.val (.int p0), .val (.int p1), .val (.int (2 : Int32)), .val (.int j), .val (.ref w2), .val (.ref r), .val (.int (1 : Int32))] [(.ref w2)])) t_
        refine XS.aload X11.here hx rfl (hb hby at_52) rfl rfl ?_
        show Steps p.tables e below (T11.setTop (mkF m 54 #[.val (.int p0), .val (.int p1), .val (.int (2 : Int32)), .val (.int j), .val (.ref w2), .val (.ref r), .val (.int (1 : Int32))] [(.ref r), (.ref w2)])) t_
        exact k_
      obtain ⟨cq16, kq16, q16a, q16b, q16c⟩ := isOf hZ e11 E2
      obtain ⟨_, _, ⟨T16, L16, k16, n16⟩, -, X16, ⟨Lc16, hQ16, l16, y16, z16⟩, st16⟩ := X11.virtualBack hx (y := (⟨"com/example/stylesheet_processor/stylesheetprocessor/model/AtomicType", "derivesFrom", "(Lcom/example/stylesheet_processor/stylesheetprocessor/model/AtomicType;)Z"⟩ : MethodName)) (z := (⟨"com/example/stylesheet_processor/stylesheetprocessor/model/AtomicType", "derivesFrom", "(Lcom/example/stylesheet_processor/stylesheetprocessor/model/AtomicType;)Z"⟩ : MethodName)) hown (mvT hZ (hw _ (List.mem_of_getElem? (i := 10) rfl))) (mvT hZ (hw _ (List.mem_of_getElem? (i := 11) rfl))) (notFace_of_selects (args := #[]) (mvT hZ (hw _ (List.mem_of_getElem? (i := 21) rfl)))) (mvT hZ (hw _ (List.mem_of_getElem? (i := 21) rfl))) (mvT hZ (hw _ (List.mem_of_getElem? (i := 12) rfl))) (by decide) (backOf (W := 0) (rm2a l Z a0 hw [] w2 r  h0 n0 Z0 B2) hZ (hw _ (List.mem_of_getElem? (i := 14) rfl)) (hw _ (List.mem_of_getElem? (i := 6) rfl)) (by decide) (by decide)) q16a q16c (g := (mkF m 54 #[.val (.int p0), .val (.int p1), .val (.int (2 : Int32)), .val (.int j), .val (.ref w2), .val (.ref r), .val (.int (1 : Int32))] [(.ref r), (.ref w2)])) rfl (by rw [hml]; rfl) (Steps.refl _) (argsL := [(.ref r)]) (rest := []) (lenOf pd1 rfl) rfl (by show 2 * 0 + _ ≤ _; exact Nat.le_of_eq rfl) (hb hby at_54) (fun _ _ => ⟨rfl, e11, (by decide : 0 + 0 ≤ _), (by decide : 0 + 0 ≤ _)⟩)
      dsimp only [Pt.U, Pt.locs, Pt.cells, Pt.slots] at X16 l16 y16 z16 st16 hQ16
      subst l16 y16 z16
      obtain ⟨rfl, N16q, e16⟩ := hQ16
      have N16 := Fr.app N11 N16q
      refine Go.via (fun t_ k_ => st16.trans k_) ?_
      show Go p.tables e below _ (T16.setTop (mkF m 57 #[.val (.int p0), .val (.int p1), .val (.int (2 : Int32)), .val (.int j), .val (.ref w2), .val (.ref r), .val (.int (1 : Int32))] [(.int (if w2 = r then 1 else 0))]))
      refine Go.via (B := T16.setTop (mkF m 59 #[.val (.int p0), .val (.int p1), .val (.int (2 : Int32)), .val (.int j), .val (.ref w2), .val (.ref r), .val (.int (1 : Int32))] [(.int (1 : Int32)), (.int (if w2 = r then 1 else 0))])) (fun t_ k_ => ?_) ?_
      · show Steps p.tables e below (T16.setTop (mkF m 57 #[.val (.int p0), .val (.int p1), .val (.int (2 : Int32)), .val (.int j), .val (.ref w2), .val (.ref r), .val (.int (1 : Int32))] [(.int (if w2 = r then 1 else 0))])) t_
        refine XS.iload X16.here hx rfl (hb hby at_57) rfl ?_
        show Steps p.tables e below (T16.setTop (mkF m 59 #[.val (.int p0), .val (.int p1), .val (.int (2 : Int32)), .val (.int j), .val (.ref w2), .val (.ref r), .val (.int (1 : Int32))] [(.int (1 : Int32)), (.int (if w2 = r then 1 else 0))])) t_
        exact k_
      refine Go.via (B := T16.setTop (mkF m 62 #[.val (.int p0), .val (.int p1), .val (.int (2 : Int32)), .val (.int j), .val (.ref w2), .val (.ref r), .val (.int (1 : Int32))] [])) (fun t_ k_ => XS.icmpNo X16.here hx rfl (hb hby at_59) rfl ((teq (if_pos (hk.mpr hij))).2) k_) ?_
      refine Go.via (B := T16.setTop (mkF m 67 #[.val (.int p0), .val (.int p1), .val (.int (2 : Int32)), .val (.int j), .val (.ref w2), .val (.ref r), .val (.int (1 : Int32))] [(.int (1 : Int32))])) (fun t_ k_ => ?_) ?_
      · show Steps p.tables e below (T16.setTop (mkF m 62 #[.val (.int p0), .val (.int p1), .val (.int (2 : Int32)), .val (.int j), .val (.ref w2), .val (.ref r), .val (.int (1 : Int32))] [])) t_
        refine XS.iconst X16.here hx rfl (hb hby at_62) ?_
        show Steps p.tables e below (T16.setTop (mkF m 63 #[.val (.int p0), .val (.int p1), .val (.int (2 : Int32)), .val (.int j), .val (.ref w2), .val (.ref r), .val (.int (1 : Int32))] [(.int (1 : Int32))])) t_
        refine XS.goto X16.here hx rfl (pc0 := 63) (pc' := 67) rfl (hb hby at_63) (by decide) (by decide) ?_
        show Steps p.tables e below (T16.setTop (mkF m 67 #[.val (.int p0), .val (.int p1), .val (.int (2 : Int32)), .val (.int j), .val (.ref w2), .val (.ref r), .val (.int (1 : Int32))] [(.int (1 : Int32))])) t_
        exact k_
      exact Go.leave X16 hlk (v := (some (.int (1 : Int32)))) (fun h => by rw [hrt] at h; cases h) (fun fs hr => retN X16 hx (t := .boolean) hrt (by simp) (hb hby at_67) hr) (by decide) (by decide) (⟨rfl, N16⟩)
    · refine Go.via (B := T11.setTop (mkF m 33 #[.val (.int p0), .val (.int p1), .val (.int (2 : Int32)), .val (.int j), .val (.ref w2), .val (.ref r), .unset] [])) (fun t_ k_ => XS.icmpNo X11.here hx rfl (hb hby at_30) rfl ((feq hij).1) k_) ?_
      refine Go.via (B := T11.setTop (mkF m 35 #[.val (.int p0), .val (.int p1), .val (.int (2 : Int32)), .val (.int j), .val (.ref w2), .val (.ref r), .unset] [(.int (4 : Int32)), (.int (2 : Int32))])) (fun t_ k_ => ?_) ?_
      · show Steps p.tables e below (T11.setTop (mkF m 33 #[.val (.int p0), .val (.int p1), .val (.int (2 : Int32)), .val (.int j), .val (.ref w2), .val (.ref r), .unset] [])) t_
        refine XS.iloadN X11.here hx rfl (hb hby at_33) rfl ?_
        show Steps p.tables e below (T11.setTop (mkF m 34 #[.val (.int p0), .val (.int p1), .val (.int (2 : Int32)), .val (.int j), .val (.ref w2), .val (.ref r), .unset] [(.int (2 : Int32))])) t_
        refine XS.iconst X11.here hx rfl (hb hby at_34) ?_
        show Steps p.tables e below (T11.setTop (mkF m 35 #[.val (.int p0), .val (.int p1), .val (.int (2 : Int32)), .val (.int j), .val (.ref w2), .val (.ref r), .unset] [(.int (4 : Int32)), (.int (2 : Int32))])) t_
        exact k_
      refine Go.via (B := T11.setTop (mkF m 47 #[.val (.int p0), .val (.int p1), .val (.int (2 : Int32)), .val (.int j), .val (.ref w2), .val (.ref r), .unset] [])) (fun t_ k_ => XS.icmpYes X11.here hx rfl (pc0 := 35) (pc' := 47) rfl (hb hby at_35) rfl ((feq (by decide : ¬ (2 : Int32) = (4 : Int32))).2) (by decide) (by decide) k_) ?_
      refine Go.via (B := T11.setTop (mkF m 54 #[.val (.int p0), .val (.int p1), .val (.int (2 : Int32)), .val (.int j), .val (.ref w2), .val (.ref r), .val (.int (0 : Int32))] [(.ref r), (.ref w2)])) (fun t_ k_ => ?_) ?_
      · show Steps p.tables e below (T11.setTop (mkF m 47 #[.val (.int p0), .val (.int p1), .val (.int (2 : Int32)), .val (.int j), .val (.ref w2), .val (.ref r), .unset] [])) t_
        refine XS.iconst X11.here hx rfl (hb hby at_47) ?_
        show Steps p.tables e below (T11.setTop (mkF m 48 #[.val (.int p0), .val (.int p1), .val (.int (2 : Int32)), .val (.int j), .val (.ref w2), .val (.ref r), .unset] [(.int (0 : Int32))])) t_
        refine XS.istore X11.here hx rfl (hb hby at_48) rfl (l' := #[.val (.int p0), .val (.int p1), .val (.int (2 : Int32)), .val (.int j), .val (.ref w2), .val (.ref r), .val (.int (0 : Int32))]) rfl ?_
        show Steps p.tables e below (T11.setTop (mkF m 50 #[.val (.int p0), .val (.int p1), .val (.int (2 : Int32)), .val (.int j), .val (.ref w2), .val (.ref r), .val (.int (0 : Int32))] [])) t_
        refine XS.aload X11.here hx rfl (hb hby at_50) rfl rfl ?_
        show Steps p.tables e below (T11.setTop (mkF m 52 #[.val (.int p0), .val (.int p1), .val (.int (2 : Int32)), .val (.int j), .val (.ref w2), .val (.ref r), .val (.int (0 : Int32))] [(.ref w2)])) t_
        refine XS.aload X11.here hx rfl (hb hby at_52) rfl rfl ?_
        show Steps p.tables e below (T11.setTop (mkF m 54 #[.val (.int p0), .val (.int p1), .val (.int (2 : Int32)), .val (.int j), .val (.ref w2), .val (.ref r), .val (.int (0 : Int32))] [(.ref r), (.ref w2)])) t_
        exact k_
      obtain ⟨cq17, kq17, q17a, q17b, q17c⟩ := isOf hZ e11 E2
      obtain ⟨_, _, ⟨T17, L17, k17, n17⟩, -, X17, ⟨Lc17, hQ17, l17, y17, z17⟩, st17⟩ := X11.virtualBack hx (y := (⟨"com/example/stylesheet_processor/stylesheetprocessor/model/AtomicType", "derivesFrom", "(Lcom/example/stylesheet_processor/stylesheetprocessor/model/AtomicType;)Z"⟩ : MethodName)) (z := (⟨"com/example/stylesheet_processor/stylesheetprocessor/model/AtomicType", "derivesFrom", "(Lcom/example/stylesheet_processor/stylesheetprocessor/model/AtomicType;)Z"⟩ : MethodName)) hown (mvT hZ (hw _ (List.mem_of_getElem? (i := 10) rfl))) (mvT hZ (hw _ (List.mem_of_getElem? (i := 11) rfl))) (notFace_of_selects (args := #[]) (mvT hZ (hw _ (List.mem_of_getElem? (i := 21) rfl)))) (mvT hZ (hw _ (List.mem_of_getElem? (i := 21) rfl))) (mvT hZ (hw _ (List.mem_of_getElem? (i := 12) rfl))) (by decide) (backOf (W := 0) (rm2a l Z a0 hw [] w2 r  h0 n0 Z0 B2) hZ (hw _ (List.mem_of_getElem? (i := 14) rfl)) (hw _ (List.mem_of_getElem? (i := 6) rfl)) (by decide) (by decide)) q17a q17c (g := (mkF m 54 #[.val (.int p0), .val (.int p1), .val (.int (2 : Int32)), .val (.int j), .val (.ref w2), .val (.ref r), .val (.int (0 : Int32))] [(.ref r), (.ref w2)])) rfl (by rw [hml]; rfl) (Steps.refl _) (argsL := [(.ref r)]) (rest := []) (lenOf pd1 rfl) rfl (by show 2 * 0 + _ ≤ _; exact Nat.le_of_eq rfl) (hb hby at_54) (fun _ _ => ⟨rfl, e11, (by decide : 0 + 0 ≤ _), (by decide : 0 + 0 ≤ _)⟩)
      dsimp only [Pt.U, Pt.locs, Pt.cells, Pt.slots] at X17 l17 y17 z17 st17 hQ17
      subst l17 y17 z17
      obtain ⟨rfl, N17q, e17⟩ := hQ17
      have N17 := Fr.app N11 N17q
      refine Go.via (fun t_ k_ => st17.trans k_) ?_
      show Go p.tables e below _ (T17.setTop (mkF m 57 #[.val (.int p0), .val (.int p1), .val (.int (2 : Int32)), .val (.int j), .val (.ref w2), .val (.ref r), .val (.int (0 : Int32))] [(.int (if w2 = r then 1 else 0))]))
      refine Go.via (B := T17.setTop (mkF m 59 #[.val (.int p0), .val (.int p1), .val (.int (2 : Int32)), .val (.int j), .val (.ref w2), .val (.ref r), .val (.int (0 : Int32))] [(.int (0 : Int32)), (.int (if w2 = r then 1 else 0))])) (fun t_ k_ => ?_) ?_
      · show Steps p.tables e below (T17.setTop (mkF m 57 #[.val (.int p0), .val (.int p1), .val (.int (2 : Int32)), .val (.int j), .val (.ref w2), .val (.ref r), .val (.int (0 : Int32))] [(.int (if w2 = r then 1 else 0))])) t_
        refine XS.iload X17.here hx rfl (hb hby at_57) rfl ?_
        show Steps p.tables e below (T17.setTop (mkF m 59 #[.val (.int p0), .val (.int p1), .val (.int (2 : Int32)), .val (.int j), .val (.ref w2), .val (.ref r), .val (.int (0 : Int32))] [(.int (0 : Int32)), (.int (if w2 = r then 1 else 0))])) t_
        exact k_
      refine Go.via (B := T17.setTop (mkF m 62 #[.val (.int p0), .val (.int p1), .val (.int (2 : Int32)), .val (.int j), .val (.ref w2), .val (.ref r), .val (.int (0 : Int32))] [])) (fun t_ k_ => XS.icmpNo X17.here hx rfl (hb hby at_59) rfl ((teq (if_neg (fun u => hij (hk.mp u)))).2) k_) ?_
      refine Go.via (B := T17.setTop (mkF m 67 #[.val (.int p0), .val (.int p1), .val (.int (2 : Int32)), .val (.int j), .val (.ref w2), .val (.ref r), .val (.int (0 : Int32))] [(.int (1 : Int32))])) (fun t_ k_ => ?_) ?_
      · show Steps p.tables e below (T17.setTop (mkF m 62 #[.val (.int p0), .val (.int p1), .val (.int (2 : Int32)), .val (.int j), .val (.ref w2), .val (.ref r), .val (.int (0 : Int32))] [])) t_
        refine XS.iconst X17.here hx rfl (hb hby at_62) ?_
        show Steps p.tables e below (T17.setTop (mkF m 63 #[.val (.int p0), .val (.int p1), .val (.int (2 : Int32)), .val (.int j), .val (.ref w2), .val (.ref r), .val (.int (0 : Int32))] [(.int (1 : Int32))])) t_
        refine XS.goto X17.here hx rfl (pc0 := 63) (pc' := 67) rfl (hb hby at_63) (by decide) (by decide) ?_
        show Steps p.tables e below (T17.setTop (mkF m 67 #[.val (.int p0), .val (.int p1), .val (.int (2 : Int32)), .val (.int j), .val (.ref w2), .val (.ref r), .val (.int (0 : Int32))] [(.int (1 : Int32))])) t_
        exact k_
      exact Go.leave X17 hlk (v := (some (.int (1 : Int32)))) (fun h => by rw [hrt] at h; cases h) (fun fs hr => retN X17 hx (t := .boolean) hrt (by simp) (hb hby at_67) hr) (by decide) (by decide) (⟨rfl, N17⟩)
  · have hk := hinj (3 : Int32) hi6'
    have hk : w3 = r ↔ (3 : Int32) = j := hk
    show Go p.tables e below _ (T11.setTop (mkF m 28 #[.val (.int p0), .val (.int p1), .val (.int (3 : Int32)), .val (.int j), .val (.ref w3), .val (.ref r), .unset] []))
    refine Go.via (B := T11.setTop (mkF m 30 #[.val (.int p0), .val (.int p1), .val (.int (3 : Int32)), .val (.int j), .val (.ref w3), .val (.ref r), .unset] [(.int j), (.int (3 : Int32))])) (fun t_ k_ => ?_) ?_
    · show Steps p.tables e below (T11.setTop (mkF m 28 #[.val (.int p0), .val (.int p1), .val (.int (3 : Int32)), .val (.int j), .val (.ref w3), .val (.ref r), .unset] [])) t_
      refine XS.iloadN X11.here hx rfl (hb hby at_28) rfl ?_
      show Steps p.tables e below (T11.setTop (mkF m 29 #[.val (.int p0), .val (.int p1), .val (.int (3 : Int32)), .val (.int j), .val (.ref w3), .val (.ref r), .unset] [(.int (3 : Int32))])) t_
      refine XS.iloadN X11.here hx rfl (hb hby at_29) rfl ?_
      show Steps p.tables e below (T11.setTop (mkF m 30 #[.val (.int p0), .val (.int p1), .val (.int (3 : Int32)), .val (.int j), .val (.ref w3), .val (.ref r), .unset] [(.int j), (.int (3 : Int32))])) t_
      exact k_
    by_cases hij : (3 : Int32) = j
    · refine Go.via (B := T11.setTop (mkF m 43 #[.val (.int p0), .val (.int p1), .val (.int (3 : Int32)), .val (.int j), .val (.ref w3), .val (.ref r), .unset] [])) (fun t_ k_ => XS.icmpYes X11.here hx rfl (pc0 := 30) (pc' := 43) rfl (hb hby at_30) rfl ((teq hij).1) (by decide) (by decide) k_) ?_
      refine Go.via (B := T11.setTop (mkF m 54 #[.val (.int p0), .val (.int p1), .val (.int (3 : Int32)), .val (.int j), .val (.ref w3), .val (.ref r), .val (.int (1 : Int32))] [(.ref r), (.ref w3)])) (fun t_ k_ => ?_) ?_
      · show Steps p.tables e below (T11.setTop (mkF m 43 #[.val (.int p0), .val (.int p1), .val (.int (3 : Int32)), .val (.int j), .val (.ref w3), .val (.ref r), .unset] [])) t_
        refine XS.iconst X11.here hx rfl (hb hby at_43) ?_
        show Steps p.tables e below (T11.setTop (mkF m 44 #[.val (.int p0), .val (.int p1), .val (.int (3 : Int32)), .val (.int j), .val (.ref w3), .val (.ref r), .unset] [(.int (1 : Int32))])) t_
        refine XS.goto X11.here hx rfl (pc0 := 44) (pc' := 48) rfl (hb hby at_44) (by decide) (by decide) ?_
        show Steps p.tables e below (T11.setTop (mkF m 48 #[.val (.int p0), .val (.int p1), .val (.int (3 : Int32)), .val (.int j), .val (.ref w3), .val (.ref r), .unset] [(.int (1 : Int32))])) t_
        refine XS.istore X11.here hx rfl (hb hby at_48) rfl (l' := #[.val (.int p0), .val (.int p1), .val (.int (3 : Int32)), .val (.int j), .val (.ref w3), .val (.ref r), .val (.int (1 : Int32))]) rfl ?_
        show Steps p.tables e below (T11.setTop (mkF m 50 #[.val (.int p0), .val (.int p1), .val (.int (3 : Int32)), .val (.int j), .val (.ref w3), .val (.ref r), .val (.int (1 : Int32))] [])) t_
        refine XS.aload X11.here hx rfl (hb hby at_50) rfl rfl ?_
        show Steps p.tables e below (T11.setTop (mkF m 52 #[.val (.int p0), .val (.int p1), .val (.int (3 : Int32)), .val (.int j), .val (.ref w3), .val (.ref r), .val (.int (1 : Int32))] [(.ref w3)])) t_
        refine XS.aload X11.here hx rfl (hb hby at_52) rfl rfl ?_
        show Steps p.tables e below (T11.setTop (mkF m 54 #[.val (.int p0), .val (.int p1), .val (.int (3 : Int32)), .val (.int j), .val (.ref w3), .val (.ref r), .val (.int (1 : Int32))] [(.ref r), (.ref w3)])) t_
        exact k_
      obtain ⟨cq18, kq18, q18a, q18b, q18c⟩ := isOf hZ e11 E3
      obtain ⟨_, _, ⟨T18, L18, k18, n18⟩, -, X18, ⟨Lc18, hQ18, l18, y18, z18⟩, st18⟩ := X11.virtualBack hx (y := (⟨"com/example/stylesheet_processor/stylesheetprocessor/model/AtomicType", "derivesFrom", "(Lcom/example/stylesheet_processor/stylesheetprocessor/model/AtomicType;)Z"⟩ : MethodName)) (z := (⟨"com/example/stylesheet_processor/stylesheetprocessor/model/AtomicType", "derivesFrom", "(Lcom/example/stylesheet_processor/stylesheetprocessor/model/AtomicType;)Z"⟩ : MethodName)) hown (mvT hZ (hw _ (List.mem_of_getElem? (i := 10) rfl))) (mvT hZ (hw _ (List.mem_of_getElem? (i := 11) rfl))) (notFace_of_selects (args := #[]) (mvT hZ (hw _ (List.mem_of_getElem? (i := 33) rfl)))) (mvT hZ (hw _ (List.mem_of_getElem? (i := 33) rfl))) (mvT hZ (hw _ (List.mem_of_getElem? (i := 12) rfl))) (by decide) (backOf (W := 0) (rm2a l Z a0 hw [] w3 r  h0 n0 Z0 B3) hZ (hw _ (List.mem_of_getElem? (i := 14) rfl)) (hw _ (List.mem_of_getElem? (i := 6) rfl)) (by decide) (by decide)) q18a q18c (g := (mkF m 54 #[.val (.int p0), .val (.int p1), .val (.int (3 : Int32)), .val (.int j), .val (.ref w3), .val (.ref r), .val (.int (1 : Int32))] [(.ref r), (.ref w3)])) rfl (by rw [hml]; rfl) (Steps.refl _) (argsL := [(.ref r)]) (rest := []) (lenOf pd1 rfl) rfl (by show 2 * 0 + _ ≤ _; exact Nat.le_of_eq rfl) (hb hby at_54) (fun _ _ => ⟨rfl, e11, (by decide : 0 + 0 ≤ _), (by decide : 0 + 0 ≤ _)⟩)
      dsimp only [Pt.U, Pt.locs, Pt.cells, Pt.slots] at X18 l18 y18 z18 st18 hQ18
      subst l18 y18 z18
      obtain ⟨rfl, N18q, e18⟩ := hQ18
      have N18 := Fr.app N11 N18q
      refine Go.via (fun t_ k_ => st18.trans k_) ?_
      show Go p.tables e below _ (T18.setTop (mkF m 57 #[.val (.int p0), .val (.int p1), .val (.int (3 : Int32)), .val (.int j), .val (.ref w3), .val (.ref r), .val (.int (1 : Int32))] [(.int (if w3 = r then 1 else 0))]))
      refine Go.via (B := T18.setTop (mkF m 59 #[.val (.int p0), .val (.int p1), .val (.int (3 : Int32)), .val (.int j), .val (.ref w3), .val (.ref r), .val (.int (1 : Int32))] [(.int (1 : Int32)), (.int (if w3 = r then 1 else 0))])) (fun t_ k_ => ?_) ?_
      · show Steps p.tables e below (T18.setTop (mkF m 57 #[.val (.int p0), .val (.int p1), .val (.int (3 : Int32)), .val (.int j), .val (.ref w3), .val (.ref r), .val (.int (1 : Int32))] [(.int (if w3 = r then 1 else 0))])) t_
        refine XS.iload X18.here hx rfl (hb hby at_57) rfl ?_
        show Steps p.tables e below (T18.setTop (mkF m 59 #[.val (.int p0), .val (.int p1), .val (.int (3 : Int32)), .val (.int j), .val (.ref w3), .val (.ref r), .val (.int (1 : Int32))] [(.int (1 : Int32)), (.int (if w3 = r then 1 else 0))])) t_
        exact k_
      refine Go.via (B := T18.setTop (mkF m 62 #[.val (.int p0), .val (.int p1), .val (.int (3 : Int32)), .val (.int j), .val (.ref w3), .val (.ref r), .val (.int (1 : Int32))] [])) (fun t_ k_ => XS.icmpNo X18.here hx rfl (hb hby at_59) rfl ((teq (if_pos (hk.mpr hij))).2) k_) ?_
      refine Go.via (B := T18.setTop (mkF m 67 #[.val (.int p0), .val (.int p1), .val (.int (3 : Int32)), .val (.int j), .val (.ref w3), .val (.ref r), .val (.int (1 : Int32))] [(.int (1 : Int32))])) (fun t_ k_ => ?_) ?_
      · show Steps p.tables e below (T18.setTop (mkF m 62 #[.val (.int p0), .val (.int p1), .val (.int (3 : Int32)), .val (.int j), .val (.ref w3), .val (.ref r), .val (.int (1 : Int32))] [])) t_
        refine XS.iconst X18.here hx rfl (hb hby at_62) ?_
        show Steps p.tables e below (T18.setTop (mkF m 63 #[.val (.int p0), .val (.int p1), .val (.int (3 : Int32)), .val (.int j), .val (.ref w3), .val (.ref r), .val (.int (1 : Int32))] [(.int (1 : Int32))])) t_
        refine XS.goto X18.here hx rfl (pc0 := 63) (pc' := 67) rfl (hb hby at_63) (by decide) (by decide) ?_
        show Steps p.tables e below (T18.setTop (mkF m 67 #[.val (.int p0), .val (.int p1), .val (.int (3 : Int32)), .val (.int j), .val (.ref w3), .val (.ref r), .val (.int (1 : Int32))] [(.int (1 : Int32))])) t_
        exact k_
      exact Go.leave X18 hlk (v := (some (.int (1 : Int32)))) (fun h => by rw [hrt] at h; cases h) (fun fs hr => retN X18 hx (t := .boolean) hrt (by simp) (hb hby at_67) hr) (by decide) (by decide) (⟨rfl, N18⟩)
    · refine Go.via (B := T11.setTop (mkF m 33 #[.val (.int p0), .val (.int p1), .val (.int (3 : Int32)), .val (.int j), .val (.ref w3), .val (.ref r), .unset] [])) (fun t_ k_ => XS.icmpNo X11.here hx rfl (hb hby at_30) rfl ((feq hij).1) k_) ?_
      refine Go.via (B := T11.setTop (mkF m 35 #[.val (.int p0), .val (.int p1), .val (.int (3 : Int32)), .val (.int j), .val (.ref w3), .val (.ref r), .unset] [(.int (4 : Int32)), (.int (3 : Int32))])) (fun t_ k_ => ?_) ?_
      · show Steps p.tables e below (T11.setTop (mkF m 33 #[.val (.int p0), .val (.int p1), .val (.int (3 : Int32)), .val (.int j), .val (.ref w3), .val (.ref r), .unset] [])) t_
        refine XS.iloadN X11.here hx rfl (hb hby at_33) rfl ?_
        show Steps p.tables e below (T11.setTop (mkF m 34 #[.val (.int p0), .val (.int p1), .val (.int (3 : Int32)), .val (.int j), .val (.ref w3), .val (.ref r), .unset] [(.int (3 : Int32))])) t_
        refine XS.iconst X11.here hx rfl (hb hby at_34) ?_
        show Steps p.tables e below (T11.setTop (mkF m 35 #[.val (.int p0), .val (.int p1), .val (.int (3 : Int32)), .val (.int j), .val (.ref w3), .val (.ref r), .unset] [(.int (4 : Int32)), (.int (3 : Int32))])) t_
        exact k_
      refine Go.via (B := T11.setTop (mkF m 47 #[.val (.int p0), .val (.int p1), .val (.int (3 : Int32)), .val (.int j), .val (.ref w3), .val (.ref r), .unset] [])) (fun t_ k_ => XS.icmpYes X11.here hx rfl (pc0 := 35) (pc' := 47) rfl (hb hby at_35) rfl ((feq (by decide : ¬ (3 : Int32) = (4 : Int32))).2) (by decide) (by decide) k_) ?_
      refine Go.via (B := T11.setTop (mkF m 54 #[.val (.int p0), .val (.int p1), .val (.int (3 : Int32)), .val (.int j), .val (.ref w3), .val (.ref r), .val (.int (0 : Int32))] [(.ref r), (.ref w3)])) (fun t_ k_ => ?_) ?_
      · show Steps p.tables e below (T11.setTop (mkF m 47 #[.val (.int p0), .val (.int p1), .val (.int (3 : Int32)), .val (.int j), .val (.ref w3), .val (.ref r), .unset] [])) t_
        refine XS.iconst X11.here hx rfl (hb hby at_47) ?_
        show Steps p.tables e below (T11.setTop (mkF m 48 #[.val (.int p0), .val (.int p1), .val (.int (3 : Int32)), .val (.int j), .val (.ref w3), .val (.ref r), .unset] [(.int (0 : Int32))])) t_
        refine XS.istore X11.here hx rfl (hb hby at_48) rfl (l' := #[.val (.int p0), .val (.int p1), .val (.int (3 : Int32)), .val (.int j), .val (.ref w3), .val (.ref r), .val (.int (0 : Int32))]) rfl ?_
        show Steps p.tables e below (T11.setTop (mkF m 50 #[.val (.int p0), .val (.int p1), .val (.int (3 : Int32)), .val (.int j), .val (.ref w3), .val (.ref r), .val (.int (0 : Int32))] [])) t_
        refine XS.aload X11.here hx rfl (hb hby at_50) rfl rfl ?_
        show Steps p.tables e below (T11.setTop (mkF m 52 #[.val (.int p0), .val (.int p1), .val (.int (3 : Int32)), .val (.int j), .val (.ref w3), .val (.ref r), .val (.int (0 : Int32))] [(.ref w3)])) t_
        refine XS.aload X11.here hx rfl (hb hby at_52) rfl rfl ?_
        show Steps p.tables e below (T11.setTop (mkF m 54 #[.val (.int p0), .val (.int p1), .val (.int (3 : Int32)), .val (.int j), .val (.ref w3), .val (.ref r), .val (.int (0 : Int32))] [(.ref r), (.ref w3)])) t_
        exact k_
      obtain ⟨cq19, kq19, q19a, q19b, q19c⟩ := isOf hZ e11 E3
      obtain ⟨_, _, ⟨T19, L19, k19, n19⟩, -, X19, ⟨Lc19, hQ19, l19, y19, z19⟩, st19⟩ := X11.virtualBack hx (y := (⟨"com/example/stylesheet_processor/stylesheetprocessor/model/AtomicType", "derivesFrom", "(Lcom/example/stylesheet_processor/stylesheetprocessor/model/AtomicType;)Z"⟩ : MethodName)) (z := (⟨"com/example/stylesheet_processor/stylesheetprocessor/model/AtomicType", "derivesFrom", "(Lcom/example/stylesheet_processor/stylesheetprocessor/model/AtomicType;)Z"⟩ : MethodName)) hown (mvT hZ (hw _ (List.mem_of_getElem? (i := 10) rfl))) (mvT hZ (hw _ (List.mem_of_getElem? (i := 11) rfl))) (notFace_of_selects (args := #[]) (mvT hZ (hw _ (List.mem_of_getElem? (i := 33) rfl)))) (mvT hZ (hw _ (List.mem_of_getElem? (i := 33) rfl))) (mvT hZ (hw _ (List.mem_of_getElem? (i := 12) rfl))) (by decide) (backOf (W := 0) (rm2a l Z a0 hw [] w3 r  h0 n0 Z0 B3) hZ (hw _ (List.mem_of_getElem? (i := 14) rfl)) (hw _ (List.mem_of_getElem? (i := 6) rfl)) (by decide) (by decide)) q19a q19c (g := (mkF m 54 #[.val (.int p0), .val (.int p1), .val (.int (3 : Int32)), .val (.int j), .val (.ref w3), .val (.ref r), .val (.int (0 : Int32))] [(.ref r), (.ref w3)])) rfl (by rw [hml]; rfl) (Steps.refl _) (argsL := [(.ref r)]) (rest := []) (lenOf pd1 rfl) rfl (by show 2 * 0 + _ ≤ _; exact Nat.le_of_eq rfl) (hb hby at_54) (fun _ _ => ⟨rfl, e11, (by decide : 0 + 0 ≤ _), (by decide : 0 + 0 ≤ _)⟩)
      dsimp only [Pt.U, Pt.locs, Pt.cells, Pt.slots] at X19 l19 y19 z19 st19 hQ19
      subst l19 y19 z19
      obtain ⟨rfl, N19q, e19⟩ := hQ19
      have N19 := Fr.app N11 N19q
      refine Go.via (fun t_ k_ => st19.trans k_) ?_
      show Go p.tables e below _ (T19.setTop (mkF m 57 #[.val (.int p0), .val (.int p1), .val (.int (3 : Int32)), .val (.int j), .val (.ref w3), .val (.ref r), .val (.int (0 : Int32))] [(.int (if w3 = r then 1 else 0))]))
      refine Go.via (B := T19.setTop (mkF m 59 #[.val (.int p0), .val (.int p1), .val (.int (3 : Int32)), .val (.int j), .val (.ref w3), .val (.ref r), .val (.int (0 : Int32))] [(.int (0 : Int32)), (.int (if w3 = r then 1 else 0))])) (fun t_ k_ => ?_) ?_
      · show Steps p.tables e below (T19.setTop (mkF m 57 #[.val (.int p0), .val (.int p1), .val (.int (3 : Int32)), .val (.int j), .val (.ref w3), .val (.ref r), .val (.int (0 : Int32))] [(.int (if w3 = r then 1 else 0))])) t_
        refine XS.iload X19.here hx rfl (hb hby at_57) rfl ?_
        show Steps p.tables e below (T19.setTop (mkF m 59 #[.val (.int p0), .val (.int p1), .val (.int (3 : Int32)), .val (.int j), .val (.ref w3), .val (.ref r), .val (.int (0 : Int32))] [(.int (0 : Int32)), (.int (if w3 = r then 1 else 0))])) t_
        exact k_
      refine Go.via (B := T19.setTop (mkF m 62 #[.val (.int p0), .val (.int p1), .val (.int (3 : Int32)), .val (.int j), .val (.ref w3), .val (.ref r), .val (.int (0 : Int32))] [])) (fun t_ k_ => XS.icmpNo X19.here hx rfl (hb hby at_59) rfl ((teq (if_neg (fun u => hij (hk.mp u)))).2) k_) ?_
      refine Go.via (B := T19.setTop (mkF m 67 #[.val (.int p0), .val (.int p1), .val (.int (3 : Int32)), .val (.int j), .val (.ref w3), .val (.ref r), .val (.int (0 : Int32))] [(.int (1 : Int32))])) (fun t_ k_ => ?_) ?_
      · show Steps p.tables e below (T19.setTop (mkF m 62 #[.val (.int p0), .val (.int p1), .val (.int (3 : Int32)), .val (.int j), .val (.ref w3), .val (.ref r), .val (.int (0 : Int32))] [])) t_
        refine XS.iconst X19.here hx rfl (hb hby at_62) ?_
        show Steps p.tables e below (T19.setTop (mkF m 63 #[.val (.int p0), .val (.int p1), .val (.int (3 : Int32)), .val (.int j), .val (.ref w3), .val (.ref r), .val (.int (0 : Int32))] [(.int (1 : Int32))])) t_
        refine XS.goto X19.here hx rfl (pc0 := 63) (pc' := 67) rfl (hb hby at_63) (by decide) (by decide) ?_
        show Steps p.tables e below (T19.setTop (mkF m 67 #[.val (.int p0), .val (.int p1), .val (.int (3 : Int32)), .val (.int j), .val (.ref w3), .val (.ref r), .val (.int (0 : Int32))] [(.int (1 : Int32))])) t_
        exact k_
      exact Go.leave X19 hlk (v := (some (.int (1 : Int32)))) (fun h => by rw [hrt] at h; cases h) (fun fs hr => retN X19 hx (t := .boolean) hrt (by simp) (hb hby at_67) hr) (by decide) (by decide) (⟨rfl, N19⟩)
  · have hk := hinj (4 : Int32) hi6'
    have hk : w4 = r ↔ (4 : Int32) = j := hk
    show Go p.tables e below _ (T11.setTop (mkF m 28 #[.val (.int p0), .val (.int p1), .val (.int (4 : Int32)), .val (.int j), .val (.ref w4), .val (.ref r), .unset] []))
    refine Go.via (B := T11.setTop (mkF m 30 #[.val (.int p0), .val (.int p1), .val (.int (4 : Int32)), .val (.int j), .val (.ref w4), .val (.ref r), .unset] [(.int j), (.int (4 : Int32))])) (fun t_ k_ => ?_) ?_
    · show Steps p.tables e below (T11.setTop (mkF m 28 #[.val (.int p0), .val (.int p1), .val (.int (4 : Int32)), .val (.int j), .val (.ref w4), .val (.ref r), .unset] [])) t_
      refine XS.iloadN X11.here hx rfl (hb hby at_28) rfl ?_
      show Steps p.tables e below (T11.setTop (mkF m 29 #[.val (.int p0), .val (.int p1), .val (.int (4 : Int32)), .val (.int j), .val (.ref w4), .val (.ref r), .unset] [(.int (4 : Int32))])) t_
      refine XS.iloadN X11.here hx rfl (hb hby at_29) rfl ?_
      show Steps p.tables e below (T11.setTop (mkF m 30 #[.val (.int p0), .val (.int p1), .val (.int (4 : Int32)), .val (.int j), .val (.ref w4), .val (.ref r), .unset] [(.int j), (.int (4 : Int32))])) t_
      exact k_
    by_cases hij : (4 : Int32) = j
    · refine Go.via (B := T11.setTop (mkF m 43 #[.val (.int p0), .val (.int p1), .val (.int (4 : Int32)), .val (.int j), .val (.ref w4), .val (.ref r), .unset] [])) (fun t_ k_ => XS.icmpYes X11.here hx rfl (pc0 := 30) (pc' := 43) rfl (hb hby at_30) rfl ((teq hij).1) (by decide) (by decide) k_) ?_
      refine Go.via (B := T11.setTop (mkF m 54 #[.val (.int p0), .val (.int p1), .val (.int (4 : Int32)), .val (.int j), .val (.ref w4), .val (.ref r), .val (.int (1 : Int32))] [(.ref r), (.ref w4)])) (fun t_ k_ => ?_) ?_
      · show Steps p.tables e below (T11.setTop (mkF m 43 #[.val (.int p0), .val (.int p1), .val (.int (4 : Int32)), .val (.int j), .val (.ref w4), .val (.ref r), .unset] [])) t_
        refine XS.iconst X11.here hx rfl (hb hby at_43) ?_
        show Steps p.tables e below (T11.setTop (mkF m 44 #[.val (.int p0), .val (.int p1), .val (.int (4 : Int32)), .val (.int j), .val (.ref w4), .val (.ref r), .unset] [(.int (1 : Int32))])) t_
        refine XS.goto X11.here hx rfl (pc0 := 44) (pc' := 48) rfl (hb hby at_44) (by decide) (by decide) ?_
        show Steps p.tables e below (T11.setTop (mkF m 48 #[.val (.int p0), .val (.int p1), .val (.int (4 : Int32)), .val (.int j), .val (.ref w4), .val (.ref r), .unset] [(.int (1 : Int32))])) t_
        refine XS.istore X11.here hx rfl (hb hby at_48) rfl (l' := #[.val (.int p0), .val (.int p1), .val (.int (4 : Int32)), .val (.int j), .val (.ref w4), .val (.ref r), .val (.int (1 : Int32))]) rfl ?_
        show Steps p.tables e below (T11.setTop (mkF m 50 #[.val (.int p0), .val (.int p1), .val (.int (4 : Int32)), .val (.int j), .val (.ref w4), .val (.ref r), .val (.int (1 : Int32))] [])) t_
        refine XS.aload X11.here hx rfl (hb hby at_50) rfl rfl ?_
        show Steps p.tables e below (T11.setTop (mkF m 52 #[.val (.int p0), .val (.int p1), .val (.int (4 : Int32)), .val (.int j), .val (.ref w4), .val (.ref r), .val (.int (1 : Int32))] [(.ref w4)])) t_
        refine XS.aload X11.here hx rfl (hb hby at_52) rfl rfl ?_
        show Steps p.tables e below (T11.setTop (mkF m 54 #[.val (.int p0), .val (.int p1), .val (.int (4 : Int32)), .val (.int j), .val (.ref w4), .val (.ref r), .val (.int (1 : Int32))] [(.ref r), (.ref w4)])) t_
        exact k_
      obtain ⟨cq20, kq20, q20a, q20b, q20c⟩ := isOf hZ e11 E4
      obtain ⟨_, _, ⟨T20, L20, k20, n20⟩, -, X20, ⟨Lc20, hQ20, l20, y20, z20⟩, st20⟩ := X11.virtualBack hx (y := (⟨"com/example/stylesheet_processor/stylesheetprocessor/model/AtomicType", "derivesFrom", "(Lcom/example/stylesheet_processor/stylesheetprocessor/model/AtomicType;)Z"⟩ : MethodName)) (z := (⟨"com/example/stylesheet_processor/stylesheetprocessor/model/AtomicType", "derivesFrom", "(Lcom/example/stylesheet_processor/stylesheetprocessor/model/AtomicType;)Z"⟩ : MethodName)) hown (mvT hZ (hw _ (List.mem_of_getElem? (i := 10) rfl))) (mvT hZ (hw _ (List.mem_of_getElem? (i := 11) rfl))) (notFace_of_selects (args := #[]) (mvT hZ (hw _ (List.mem_of_getElem? (i := 27) rfl)))) (mvT hZ (hw _ (List.mem_of_getElem? (i := 27) rfl))) (mvT hZ (hw _ (List.mem_of_getElem? (i := 12) rfl))) (by decide) (backOf (W := 0) (rm2b l Z a0 hw [] w4 r w3 h0 n0 Z0 B4 B3) hZ (hw _ (List.mem_of_getElem? (i := 14) rfl)) (hw _ (List.mem_of_getElem? (i := 6) rfl)) (by decide) (by decide)) q20a q20c (g := (mkF m 54 #[.val (.int p0), .val (.int p1), .val (.int (4 : Int32)), .val (.int j), .val (.ref w4), .val (.ref r), .val (.int (1 : Int32))] [(.ref r), (.ref w4)])) rfl (by rw [hml]; rfl) (Steps.refl _) (argsL := [(.ref r)]) (rest := []) (lenOf pd1 rfl) rfl (by show 2 * 0 + _ ≤ _; exact Nat.le_of_eq rfl) (hb hby at_54) (fun _ _ => ⟨rfl, e11, (by decide : 0 + 0 ≤ _), (by decide : 0 + 0 ≤ _)⟩)
      dsimp only [Pt.U, Pt.locs, Pt.cells, Pt.slots] at X20 l20 y20 z20 st20 hQ20
      subst l20 y20 z20
      obtain ⟨rfl, N20q, e20⟩ := hQ20
      have N20 := Fr.app N11 N20q
      refine Go.via (fun t_ k_ => st20.trans k_) ?_
      show Go p.tables e below _ (T20.setTop (mkF m 57 #[.val (.int p0), .val (.int p1), .val (.int (4 : Int32)), .val (.int j), .val (.ref w4), .val (.ref r), .val (.int (1 : Int32))] [(.int (if w4 = r then 1 else if w3 = r then 1 else 0))]))
      refine Go.via (B := T20.setTop (mkF m 59 #[.val (.int p0), .val (.int p1), .val (.int (4 : Int32)), .val (.int j), .val (.ref w4), .val (.ref r), .val (.int (1 : Int32))] [(.int (1 : Int32)), (.int (if w4 = r then 1 else if w3 = r then 1 else 0))])) (fun t_ k_ => ?_) ?_
      · show Steps p.tables e below (T20.setTop (mkF m 57 #[.val (.int p0), .val (.int p1), .val (.int (4 : Int32)), .val (.int j), .val (.ref w4), .val (.ref r), .val (.int (1 : Int32))] [(.int (if w4 = r then 1 else if w3 = r then 1 else 0))])) t_
        refine XS.iload X20.here hx rfl (hb hby at_57) rfl ?_
        show Steps p.tables e below (T20.setTop (mkF m 59 #[.val (.int p0), .val (.int p1), .val (.int (4 : Int32)), .val (.int j), .val (.ref w4), .val (.ref r), .val (.int (1 : Int32))] [(.int (1 : Int32)), (.int (if w4 = r then 1 else if w3 = r then 1 else 0))])) t_
        exact k_
      refine Go.via (B := T20.setTop (mkF m 62 #[.val (.int p0), .val (.int p1), .val (.int (4 : Int32)), .val (.int j), .val (.ref w4), .val (.ref r), .val (.int (1 : Int32))] [])) (fun t_ k_ => XS.icmpNo X20.here hx rfl (hb hby at_59) rfl ((teq (if_pos (hk.mpr hij))).2) k_) ?_
      refine Go.via (B := T20.setTop (mkF m 67 #[.val (.int p0), .val (.int p1), .val (.int (4 : Int32)), .val (.int j), .val (.ref w4), .val (.ref r), .val (.int (1 : Int32))] [(.int (1 : Int32))])) (fun t_ k_ => ?_) ?_
      · show Steps p.tables e below (T20.setTop (mkF m 62 #[.val (.int p0), .val (.int p1), .val (.int (4 : Int32)), .val (.int j), .val (.ref w4), .val (.ref r), .val (.int (1 : Int32))] [])) t_
        refine XS.iconst X20.here hx rfl (hb hby at_62) ?_
        show Steps p.tables e below (T20.setTop (mkF m 63 #[.val (.int p0), .val (.int p1), .val (.int (4 : Int32)), .val (.int j), .val (.ref w4), .val (.ref r), .val (.int (1 : Int32))] [(.int (1 : Int32))])) t_
        refine XS.goto X20.here hx rfl (pc0 := 63) (pc' := 67) rfl (hb hby at_63) (by decide) (by decide) ?_
        show Steps p.tables e below (T20.setTop (mkF m 67 #[.val (.int p0), .val (.int p1), .val (.int (4 : Int32)), .val (.int j), .val (.ref w4), .val (.ref r), .val (.int (1 : Int32))] [(.int (1 : Int32))])) t_
        exact k_
      exact Go.leave X20 hlk (v := (some (.int (1 : Int32)))) (fun h => by rw [hrt] at h; cases h) (fun fs hr => retN X20 hx (t := .boolean) hrt (by simp) (hb hby at_67) hr) (by decide) (by decide) (⟨rfl, N20⟩)
    · refine Go.via (B := T11.setTop (mkF m 33 #[.val (.int p0), .val (.int p1), .val (.int (4 : Int32)), .val (.int j), .val (.ref w4), .val (.ref r), .unset] [])) (fun t_ k_ => XS.icmpNo X11.here hx rfl (hb hby at_30) rfl ((feq hij).1) k_) ?_
      refine Go.via (B := T11.setTop (mkF m 35 #[.val (.int p0), .val (.int p1), .val (.int (4 : Int32)), .val (.int j), .val (.ref w4), .val (.ref r), .unset] [(.int (4 : Int32)), (.int (4 : Int32))])) (fun t_ k_ => ?_) ?_
      · show Steps p.tables e below (T11.setTop (mkF m 33 #[.val (.int p0), .val (.int p1), .val (.int (4 : Int32)), .val (.int j), .val (.ref w4), .val (.ref r), .unset] [])) t_
        refine XS.iloadN X11.here hx rfl (hb hby at_33) rfl ?_
        show Steps p.tables e below (T11.setTop (mkF m 34 #[.val (.int p0), .val (.int p1), .val (.int (4 : Int32)), .val (.int j), .val (.ref w4), .val (.ref r), .unset] [(.int (4 : Int32))])) t_
        refine XS.iconst X11.here hx rfl (hb hby at_34) ?_
        show Steps p.tables e below (T11.setTop (mkF m 35 #[.val (.int p0), .val (.int p1), .val (.int (4 : Int32)), .val (.int j), .val (.ref w4), .val (.ref r), .unset] [(.int (4 : Int32)), (.int (4 : Int32))])) t_
        exact k_
      refine Go.via (B := T11.setTop (mkF m 38 #[.val (.int p0), .val (.int p1), .val (.int (4 : Int32)), .val (.int j), .val (.ref w4), .val (.ref r), .unset] [])) (fun t_ k_ => XS.icmpNo X11.here hx rfl (hb hby at_35) rfl ((teq (rfl : (4 : Int32) = (4 : Int32))).2) k_) ?_
      refine Go.via (B := T11.setTop (mkF m 40 #[.val (.int p0), .val (.int p1), .val (.int (4 : Int32)), .val (.int j), .val (.ref w4), .val (.ref r), .unset] [(.int (3 : Int32)), (.int j)])) (fun t_ k_ => ?_) ?_
      · show Steps p.tables e below (T11.setTop (mkF m 38 #[.val (.int p0), .val (.int p1), .val (.int (4 : Int32)), .val (.int j), .val (.ref w4), .val (.ref r), .unset] [])) t_
        refine XS.iloadN X11.here hx rfl (hb hby at_38) rfl ?_
        show Steps p.tables e below (T11.setTop (mkF m 39 #[.val (.int p0), .val (.int p1), .val (.int (4 : Int32)), .val (.int j), .val (.ref w4), .val (.ref r), .unset] [(.int j)])) t_
        refine XS.iconst X11.here hx rfl (hb hby at_39) ?_
        show Steps p.tables e below (T11.setTop (mkF m 40 #[.val (.int p0), .val (.int p1), .val (.int (4 : Int32)), .val (.int j), .val (.ref w4), .val (.ref r), .unset] [(.int (3 : Int32)), (.int j)])) t_
        exact k_
      by_cases hj3 : j = (3 : Int32)
      · refine Go.via (B := T11.setTop (mkF m 43 #[.val (.int p0), .val (.int p1), .val (.int (4 : Int32)), .val (.int j), .val (.ref w4), .val (.ref r), .unset] [])) (fun t_ k_ => XS.icmpNo X11.here hx rfl (hb hby at_40) rfl ((teq hj3).2) k_) ?_
        have h3r : w3 = r ↔ (3 : Int32) = j := hinj 3 (Or.inr (Or.inr (Or.inr (Or.inl rfl))))
        refine Go.via (B := T11.setTop (mkF m 54 #[.val (.int p0), .val (.int p1), .val (.int (4 : Int32)), .val (.int j), .val (.ref w4), .val (.ref r), .val (.int (1 : Int32))] [(.ref r), (.ref w4)])) (fun t_ k_ => ?_) ?_
        · show Steps p.tables e below (T11.setTop (mkF m 43 #[.val (.int p0), .val (.int p1), .val (.int (4 : Int32)), .val (.int j), .val (.ref w4), .val (.ref r), .unset] [])) t_
          refine XS.iconst X11.here hx rfl (hb hby at_43) ?_
          show Steps p.tables e below (T11.setTop (mkF m 44 #[.val (.int p0), .val (.int p1), .val (.int (4 : Int32)), .val (.int j), .val (.ref w4), .val (.ref r), .unset] [(.int (1 : Int32))])) t_
          refine XS.goto X11.here hx rfl (pc0 := 44) (pc' := 48) rfl (hb hby at_44) (by decide) (by decide) ?_
          show Steps p.tables e below (T11.setTop (mkF m 48 #[.val (.int p0), .val (.int p1), .val (.int (4 : Int32)), .val (.int j), .val (.ref w4), .val (.ref r), .unset] [(.int (1 : Int32))])) t_
          refine XS.istore X11.here hx rfl (hb hby at_48) rfl (l' := #[.val (.int p0), .val (.int p1), .val (.int (4 : Int32)), .val (.int j), .val (.ref w4), .val (.ref r), .val (.int (1 : Int32))]) rfl ?_
          show Steps p.tables e below (T11.setTop (mkF m 50 #[.val (.int p0), .val (.int p1), .val (.int (4 : Int32)), .val (.int j), .val (.ref w4), .val (.ref r), .val (.int (1 : Int32))] [])) t_
          refine XS.aload X11.here hx rfl (hb hby at_50) rfl rfl ?_
          show Steps p.tables e below (T11.setTop (mkF m 52 #[.val (.int p0), .val (.int p1), .val (.int (4 : Int32)), .val (.int j), .val (.ref w4), .val (.ref r), .val (.int (1 : Int32))] [(.ref w4)])) t_
          refine XS.aload X11.here hx rfl (hb hby at_52) rfl rfl ?_
          show Steps p.tables e below (T11.setTop (mkF m 54 #[.val (.int p0), .val (.int p1), .val (.int (4 : Int32)), .val (.int j), .val (.ref w4), .val (.ref r), .val (.int (1 : Int32))] [(.ref r), (.ref w4)])) t_
          exact k_
        obtain ⟨cq21, kq21, q21a, q21b, q21c⟩ := isOf hZ e11 E4
        obtain ⟨_, _, ⟨T21, L21, k21, n21⟩, -, X21, ⟨Lc21, hQ21, l21, y21, z21⟩, st21⟩ := X11.virtualBack hx (y := (⟨"com/example/stylesheet_processor/stylesheetprocessor/model/AtomicType", "derivesFrom", "(Lcom/example/stylesheet_processor/stylesheetprocessor/model/AtomicType;)Z"⟩ : MethodName)) (z := (⟨"com/example/stylesheet_processor/stylesheetprocessor/model/AtomicType", "derivesFrom", "(Lcom/example/stylesheet_processor/stylesheetprocessor/model/AtomicType;)Z"⟩ : MethodName)) hown (mvT hZ (hw _ (List.mem_of_getElem? (i := 10) rfl))) (mvT hZ (hw _ (List.mem_of_getElem? (i := 11) rfl))) (notFace_of_selects (args := #[]) (mvT hZ (hw _ (List.mem_of_getElem? (i := 27) rfl)))) (mvT hZ (hw _ (List.mem_of_getElem? (i := 27) rfl))) (mvT hZ (hw _ (List.mem_of_getElem? (i := 12) rfl))) (by decide) (backOf (W := 0) (rm2b l Z a0 hw [] w4 r w3 h0 n0 Z0 B4 B3) hZ (hw _ (List.mem_of_getElem? (i := 14) rfl)) (hw _ (List.mem_of_getElem? (i := 6) rfl)) (by decide) (by decide)) q21a q21c (g := (mkF m 54 #[.val (.int p0), .val (.int p1), .val (.int (4 : Int32)), .val (.int j), .val (.ref w4), .val (.ref r), .val (.int (1 : Int32))] [(.ref r), (.ref w4)])) rfl (by rw [hml]; rfl) (Steps.refl _) (argsL := [(.ref r)]) (rest := []) (lenOf pd1 rfl) rfl (by show 2 * 0 + _ ≤ _; exact Nat.le_of_eq rfl) (hb hby at_54) (fun _ _ => ⟨rfl, e11, (by decide : 0 + 0 ≤ _), (by decide : 0 + 0 ≤ _)⟩)
        dsimp only [Pt.U, Pt.locs, Pt.cells, Pt.slots] at X21 l21 y21 z21 st21 hQ21
        subst l21 y21 z21
        obtain ⟨rfl, N21q, e21⟩ := hQ21
        have N21 := Fr.app N11 N21q
        refine Go.via (fun t_ k_ => st21.trans k_) ?_
        show Go p.tables e below _ (T21.setTop (mkF m 57 #[.val (.int p0), .val (.int p1), .val (.int (4 : Int32)), .val (.int j), .val (.ref w4), .val (.ref r), .val (.int (1 : Int32))] [(.int (if w4 = r then 1 else if w3 = r then 1 else 0))]))
        refine Go.via (B := T21.setTop (mkF m 59 #[.val (.int p0), .val (.int p1), .val (.int (4 : Int32)), .val (.int j), .val (.ref w4), .val (.ref r), .val (.int (1 : Int32))] [(.int (1 : Int32)), (.int (if w4 = r then 1 else if w3 = r then 1 else 0))])) (fun t_ k_ => ?_) ?_
        · show Steps p.tables e below (T21.setTop (mkF m 57 #[.val (.int p0), .val (.int p1), .val (.int (4 : Int32)), .val (.int j), .val (.ref w4), .val (.ref r), .val (.int (1 : Int32))] [(.int (if w4 = r then 1 else if w3 = r then 1 else 0))])) t_
          refine XS.iload X21.here hx rfl (hb hby at_57) rfl ?_
          show Steps p.tables e below (T21.setTop (mkF m 59 #[.val (.int p0), .val (.int p1), .val (.int (4 : Int32)), .val (.int j), .val (.ref w4), .val (.ref r), .val (.int (1 : Int32))] [(.int (1 : Int32)), (.int (if w4 = r then 1 else if w3 = r then 1 else 0))])) t_
          exact k_
        refine Go.via (B := T21.setTop (mkF m 62 #[.val (.int p0), .val (.int p1), .val (.int (4 : Int32)), .val (.int j), .val (.ref w4), .val (.ref r), .val (.int (1 : Int32))] [])) (fun t_ k_ => XS.icmpNo X21.here hx rfl (hb hby at_59) rfl ((teq ((if_neg (fun u => hij (hk.mp u))).trans (if_pos (h3r.mpr hj3.symm)))).2) k_) ?_
        refine Go.via (B := T21.setTop (mkF m 67 #[.val (.int p0), .val (.int p1), .val (.int (4 : Int32)), .val (.int j), .val (.ref w4), .val (.ref r), .val (.int (1 : Int32))] [(.int (1 : Int32))])) (fun t_ k_ => ?_) ?_
        · show Steps p.tables e below (T21.setTop (mkF m 62 #[.val (.int p0), .val (.int p1), .val (.int (4 : Int32)), .val (.int j), .val (.ref w4), .val (.ref r), .val (.int (1 : Int32))] [])) t_
          refine XS.iconst X21.here hx rfl (hb hby at_62) ?_
          show Steps p.tables e below (T21.setTop (mkF m 63 #[.val (.int p0), .val (.int p1), .val (.int (4 : Int32)), .val (.int j), .val (.ref w4), .val (.ref r), .val (.int (1 : Int32))] [(.int (1 : Int32))])) t_
          refine XS.goto X21.here hx rfl (pc0 := 63) (pc' := 67) rfl (hb hby at_63) (by decide) (by decide) ?_
          show Steps p.tables e below (T21.setTop (mkF m 67 #[.val (.int p0), .val (.int p1), .val (.int (4 : Int32)), .val (.int j), .val (.ref w4), .val (.ref r), .val (.int (1 : Int32))] [(.int (1 : Int32))])) t_
          exact k_
        exact Go.leave X21 hlk (v := (some (.int (1 : Int32)))) (fun h => by rw [hrt] at h; cases h) (fun fs hr => retN X21 hx (t := .boolean) hrt (by simp) (hb hby at_67) hr) (by decide) (by decide) (⟨rfl, N21⟩)
      · refine Go.via (B := T11.setTop (mkF m 47 #[.val (.int p0), .val (.int p1), .val (.int (4 : Int32)), .val (.int j), .val (.ref w4), .val (.ref r), .unset] [])) (fun t_ k_ => XS.icmpYes X11.here hx rfl (pc0 := 40) (pc' := 47) rfl (hb hby at_40) rfl ((feq hj3).2) (by decide) (by decide) k_) ?_
        have h3r : w3 = r ↔ (3 : Int32) = j := hinj 3 (Or.inr (Or.inr (Or.inr (Or.inl rfl))))
        refine Go.via (B := T11.setTop (mkF m 54 #[.val (.int p0), .val (.int p1), .val (.int (4 : Int32)), .val (.int j), .val (.ref w4), .val (.ref r), .val (.int (0 : Int32))] [(.ref r), (.ref w4)])) (fun t_ k_ => ?_) ?_
        · show Steps p.tables e below (T11.setTop (mkF m 47 #[.val (.int p0), .val (.int p1), .val (.int (4 : Int32)), .val (.int j), .val (.ref w4), .val (.ref r), .unset] [])) t_
          refine XS.iconst X11.here hx rfl (hb hby at_47) ?_
          show Steps p.tables e below (T11.setTop (mkF m 48 #[.val (.int p0), .val (.int p1), .val (.int (4 : Int32)), .val (.int j), .val (.ref w4), .val (.ref r), .unset] [(.int (0 : Int32))])) t_
          refine XS.istore X11.here hx rfl (hb hby at_48) rfl (l' := #[.val (.int p0), .val (.int p1), .val (.int (4 : Int32)), .val (.int j), .val (.ref w4), .val (.ref r), .val (.int (0 : Int32))]) rfl ?_
          show Steps p.tables e below (T11.setTop (mkF m 50 #[.val (.int p0), .val (.int p1), .val (.int (4 : Int32)), .val (.int j), .val (.ref w4), .val (.ref r), .val (.int (0 : Int32))] [])) t_
          refine XS.aload X11.here hx rfl (hb hby at_50) rfl rfl ?_
          show Steps p.tables e below (T11.setTop (mkF m 52 #[.val (.int p0), .val (.int p1), .val (.int (4 : Int32)), .val (.int j), .val (.ref w4), .val (.ref r), .val (.int (0 : Int32))] [(.ref w4)])) t_
          refine XS.aload X11.here hx rfl (hb hby at_52) rfl rfl ?_
          show Steps p.tables e below (T11.setTop (mkF m 54 #[.val (.int p0), .val (.int p1), .val (.int (4 : Int32)), .val (.int j), .val (.ref w4), .val (.ref r), .val (.int (0 : Int32))] [(.ref r), (.ref w4)])) t_
          exact k_
        obtain ⟨cq22, kq22, q22a, q22b, q22c⟩ := isOf hZ e11 E4
        obtain ⟨_, _, ⟨T22, L22, k22, n22⟩, -, X22, ⟨Lc22, hQ22, l22, y22, z22⟩, st22⟩ := X11.virtualBack hx (y := (⟨"com/example/stylesheet_processor/stylesheetprocessor/model/AtomicType", "derivesFrom", "(Lcom/example/stylesheet_processor/stylesheetprocessor/model/AtomicType;)Z"⟩ : MethodName)) (z := (⟨"com/example/stylesheet_processor/stylesheetprocessor/model/AtomicType", "derivesFrom", "(Lcom/example/stylesheet_processor/stylesheetprocessor/model/AtomicType;)Z"⟩ : MethodName)) hown (mvT hZ (hw _ (List.mem_of_getElem? (i := 10) rfl))) (mvT hZ (hw _ (List.mem_of_getElem? (i := 11) rfl))) (notFace_of_selects (args := #[]) (mvT hZ (hw _ (List.mem_of_getElem? (i := 27) rfl)))) (mvT hZ (hw _ (List.mem_of_getElem? (i := 27) rfl))) (mvT hZ (hw _ (List.mem_of_getElem? (i := 12) rfl))) (by decide) (backOf (W := 0) (rm2b l Z a0 hw [] w4 r w3 h0 n0 Z0 B4 B3) hZ (hw _ (List.mem_of_getElem? (i := 14) rfl)) (hw _ (List.mem_of_getElem? (i := 6) rfl)) (by decide) (by decide)) q22a q22c (g := (mkF m 54 #[.val (.int p0), .val (.int p1), .val (.int (4 : Int32)), .val (.int j), .val (.ref w4), .val (.ref r), .val (.int (0 : Int32))] [(.ref r), (.ref w4)])) rfl (by rw [hml]; rfl) (Steps.refl _) (argsL := [(.ref r)]) (rest := []) (lenOf pd1 rfl) rfl (by show 2 * 0 + _ ≤ _; exact Nat.le_of_eq rfl) (hb hby at_54) (fun _ _ => ⟨rfl, e11, (by decide : 0 + 0 ≤ _), (by decide : 0 + 0 ≤ _)⟩)
        dsimp only [Pt.U, Pt.locs, Pt.cells, Pt.slots] at X22 l22 y22 z22 st22 hQ22
        subst l22 y22 z22
        obtain ⟨rfl, N22q, e22⟩ := hQ22
        have N22 := Fr.app N11 N22q
        refine Go.via (fun t_ k_ => st22.trans k_) ?_
        show Go p.tables e below _ (T22.setTop (mkF m 57 #[.val (.int p0), .val (.int p1), .val (.int (4 : Int32)), .val (.int j), .val (.ref w4), .val (.ref r), .val (.int (0 : Int32))] [(.int (if w4 = r then 1 else if w3 = r then 1 else 0))]))
        refine Go.via (B := T22.setTop (mkF m 59 #[.val (.int p0), .val (.int p1), .val (.int (4 : Int32)), .val (.int j), .val (.ref w4), .val (.ref r), .val (.int (0 : Int32))] [(.int (0 : Int32)), (.int (if w4 = r then 1 else if w3 = r then 1 else 0))])) (fun t_ k_ => ?_) ?_
        · show Steps p.tables e below (T22.setTop (mkF m 57 #[.val (.int p0), .val (.int p1), .val (.int (4 : Int32)), .val (.int j), .val (.ref w4), .val (.ref r), .val (.int (0 : Int32))] [(.int (if w4 = r then 1 else if w3 = r then 1 else 0))])) t_
          refine XS.iload X22.here hx rfl (hb hby at_57) rfl ?_
          show Steps p.tables e below (T22.setTop (mkF m 59 #[.val (.int p0), .val (.int p1), .val (.int (4 : Int32)), .val (.int j), .val (.ref w4), .val (.ref r), .val (.int (0 : Int32))] [(.int (0 : Int32)), (.int (if w4 = r then 1 else if w3 = r then 1 else 0))])) t_
          exact k_
        refine Go.via (B := T22.setTop (mkF m 62 #[.val (.int p0), .val (.int p1), .val (.int (4 : Int32)), .val (.int j), .val (.ref w4), .val (.ref r), .val (.int (0 : Int32))] [])) (fun t_ k_ => XS.icmpNo X22.here hx rfl (hb hby at_59) rfl ((teq ((if_neg (fun u => hij (hk.mp u))).trans (if_neg (fun u => hj3 (h3r.mp u).symm)))).2) k_) ?_
        refine Go.via (B := T22.setTop (mkF m 67 #[.val (.int p0), .val (.int p1), .val (.int (4 : Int32)), .val (.int j), .val (.ref w4), .val (.ref r), .val (.int (0 : Int32))] [(.int (1 : Int32))])) (fun t_ k_ => ?_) ?_
        · show Steps p.tables e below (T22.setTop (mkF m 62 #[.val (.int p0), .val (.int p1), .val (.int (4 : Int32)), .val (.int j), .val (.ref w4), .val (.ref r), .val (.int (0 : Int32))] [])) t_
          refine XS.iconst X22.here hx rfl (hb hby at_62) ?_
          show Steps p.tables e below (T22.setTop (mkF m 63 #[.val (.int p0), .val (.int p1), .val (.int (4 : Int32)), .val (.int j), .val (.ref w4), .val (.ref r), .val (.int (0 : Int32))] [(.int (1 : Int32))])) t_
          refine XS.goto X22.here hx rfl (pc0 := 63) (pc' := 67) rfl (hb hby at_63) (by decide) (by decide) ?_
          show Steps p.tables e below (T22.setTop (mkF m 67 #[.val (.int p0), .val (.int p1), .val (.int (4 : Int32)), .val (.int j), .val (.ref w4), .val (.ref r), .val (.int (0 : Int32))] [(.int (1 : Int32))])) t_
          exact k_
        exact Go.leave X22 hlk (v := (some (.int (1 : Int32)))) (fun h => by rw [hrt] at h; cases h) (fun fs hr => retN X22 hx (t := .boolean) hrt (by simp) (hb hby at_67) hr) (by decide) (by decide) (⟨rfl, N22⟩)
  · have hk := hinj (5 : Int32) hi6'
    have hk : w5 = r ↔ (5 : Int32) = j := hk
    show Go p.tables e below _ (T11.setTop (mkF m 28 #[.val (.int p0), .val (.int p1), .val (.int (5 : Int32)), .val (.int j), .val (.ref w5), .val (.ref r), .unset] []))
    refine Go.via (B := T11.setTop (mkF m 30 #[.val (.int p0), .val (.int p1), .val (.int (5 : Int32)), .val (.int j), .val (.ref w5), .val (.ref r), .unset] [(.int j), (.int (5 : Int32))])) (fun t_ k_ => ?_) ?_
    · show Steps p.tables e below (T11.setTop (mkF m 28 #[.val (.int p0), .val (.int p1), .val (.int (5 : Int32)), .val (.int j), .val (.ref w5), .val (.ref r), .unset] [])) t_
      refine XS.iloadN X11.here hx rfl (hb hby at_28) rfl ?_
      show Steps p.tables e below (T11.setTop (mkF m 29 #[.val (.int p0), .val (.int p1), .val (.int (5 : Int32)), .val (.int j), .val (.ref w5), .val (.ref r), .unset] [(.int (5 : Int32))])) t_
      refine XS.iloadN X11.here hx rfl (hb hby at_29) rfl ?_
      show Steps p.tables e below (T11.setTop (mkF m 30 #[.val (.int p0), .val (.int p1), .val (.int (5 : Int32)), .val (.int j), .val (.ref w5), .val (.ref r), .unset] [(.int j), (.int (5 : Int32))])) t_
      exact k_
    by_cases hij : (5 : Int32) = j
    · refine Go.via (B := T11.setTop (mkF m 43 #[.val (.int p0), .val (.int p1), .val (.int (5 : Int32)), .val (.int j), .val (.ref w5), .val (.ref r), .unset] [])) (fun t_ k_ => XS.icmpYes X11.here hx rfl (pc0 := 30) (pc' := 43) rfl (hb hby at_30) rfl ((teq hij).1) (by decide) (by decide) k_) ?_
      refine Go.via (B := T11.setTop (mkF m 54 #[.val (.int p0), .val (.int p1), .val (.int (5 : Int32)), .val (.int j), .val (.ref w5), .val (.ref r), .val (.int (1 : Int32))] [(.ref r), (.ref w5)])) (fun t_ k_ => ?_) ?_
      · show Steps p.tables e below (T11.setTop (mkF m 43 #[.val (.int p0), .val (.int p1), .val (.int (5 : Int32)), .val (.int j), .val (.ref w5), .val (.ref r), .unset] [])) t_
        refine XS.iconst X11.here hx rfl (hb hby at_43) ?_
        show Steps p.tables e below (T11.setTop (mkF m 44 #[.val (.int p0), .val (.int p1), .val (.int (5 : Int32)), .val (.int j), .val (.ref w5), .val (.ref r), .unset] [(.int (1 : Int32))])) t_
        refine XS.goto X11.here hx rfl (pc0 := 44) (pc' := 48) rfl (hb hby at_44) (by decide) (by decide) ?_
        show Steps p.tables e below (T11.setTop (mkF m 48 #[.val (.int p0), .val (.int p1), .val (.int (5 : Int32)), .val (.int j), .val (.ref w5), .val (.ref r), .unset] [(.int (1 : Int32))])) t_
        refine XS.istore X11.here hx rfl (hb hby at_48) rfl (l' := #[.val (.int p0), .val (.int p1), .val (.int (5 : Int32)), .val (.int j), .val (.ref w5), .val (.ref r), .val (.int (1 : Int32))]) rfl ?_
        show Steps p.tables e below (T11.setTop (mkF m 50 #[.val (.int p0), .val (.int p1), .val (.int (5 : Int32)), .val (.int j), .val (.ref w5), .val (.ref r), .val (.int (1 : Int32))] [])) t_
        refine XS.aload X11.here hx rfl (hb hby at_50) rfl rfl ?_
        show Steps p.tables e below (T11.setTop (mkF m 52 #[.val (.int p0), .val (.int p1), .val (.int (5 : Int32)), .val (.int j), .val (.ref w5), .val (.ref r), .val (.int (1 : Int32))] [(.ref w5)])) t_
        refine XS.aload X11.here hx rfl (hb hby at_52) rfl rfl ?_
        show Steps p.tables e below (T11.setTop (mkF m 54 #[.val (.int p0), .val (.int p1), .val (.int (5 : Int32)), .val (.int j), .val (.ref w5), .val (.ref r), .val (.int (1 : Int32))] [(.ref r), (.ref w5)])) t_
        exact k_
      obtain ⟨cq23, kq23, q23a, q23b, q23c⟩ := isOf hZ e11 E5
      obtain ⟨_, _, ⟨T23, L23, k23, n23⟩, -, X23, ⟨Lc23, hQ23, l23, y23, z23⟩, st23⟩ := X11.virtualBack hx (y := (⟨"com/example/stylesheet_processor/stylesheetprocessor/model/AtomicType", "derivesFrom", "(Lcom/example/stylesheet_processor/stylesheetprocessor/model/AtomicType;)Z"⟩ : MethodName)) (z := (⟨"com/example/stylesheet_processor/stylesheetprocessor/model/AtomicType", "derivesFrom", "(Lcom/example/stylesheet_processor/stylesheetprocessor/model/AtomicType;)Z"⟩ : MethodName)) hown (mvT hZ (hw _ (List.mem_of_getElem? (i := 10) rfl))) (mvT hZ (hw _ (List.mem_of_getElem? (i := 11) rfl))) (notFace_of_selects (args := #[]) (mvT hZ (hw _ (List.mem_of_getElem? (i := 31) rfl)))) (mvT hZ (hw _ (List.mem_of_getElem? (i := 31) rfl))) (mvT hZ (hw _ (List.mem_of_getElem? (i := 12) rfl))) (by decide) (backOf (W := 0) (rm2a l Z a0 hw [] w5 r  h0 n0 Z0 B5) hZ (hw _ (List.mem_of_getElem? (i := 14) rfl)) (hw _ (List.mem_of_getElem? (i := 6) rfl)) (by decide) (by decide)) q23a q23c (g := (mkF m 54 #[.val (.int p0), .val (.int p1), .val (.int (5 : Int32)), .val (.int j), .val (.ref w5), .val (.ref r), .val (.int (1 : Int32))] [(.ref r), (.ref w5)])) rfl (by rw [hml]; rfl) (Steps.refl _) (argsL := [(.ref r)]) (rest := []) (lenOf pd1 rfl) rfl (by show 2 * 0 + _ ≤ _; exact Nat.le_of_eq rfl) (hb hby at_54) (fun _ _ => ⟨rfl, e11, (by decide : 0 + 0 ≤ _), (by decide : 0 + 0 ≤ _)⟩)
      dsimp only [Pt.U, Pt.locs, Pt.cells, Pt.slots] at X23 l23 y23 z23 st23 hQ23
      subst l23 y23 z23
      obtain ⟨rfl, N23q, e23⟩ := hQ23
      have N23 := Fr.app N11 N23q
      refine Go.via (fun t_ k_ => st23.trans k_) ?_
      show Go p.tables e below _ (T23.setTop (mkF m 57 #[.val (.int p0), .val (.int p1), .val (.int (5 : Int32)), .val (.int j), .val (.ref w5), .val (.ref r), .val (.int (1 : Int32))] [(.int (if w5 = r then 1 else 0))]))
      refine Go.via (B := T23.setTop (mkF m 59 #[.val (.int p0), .val (.int p1), .val (.int (5 : Int32)), .val (.int j), .val (.ref w5), .val (.ref r), .val (.int (1 : Int32))] [(.int (1 : Int32)), (.int (if w5 = r then 1 else 0))])) (fun t_ k_ => ?_) ?_
      · show Steps p.tables e below (T23.setTop (mkF m 57 #[.val (.int p0), .val (.int p1), .val (.int (5 : Int32)), .val (.int j), .val (.ref w5), .val (.ref r), .val (.int (1 : Int32))] [(.int (if w5 = r then 1 else 0))])) t_
        refine XS.iload X23.here hx rfl (hb hby at_57) rfl ?_
        show Steps p.tables e below (T23.setTop (mkF m 59 #[.val (.int p0), .val (.int p1), .val (.int (5 : Int32)), .val (.int j), .val (.ref w5), .val (.ref r), .val (.int (1 : Int32))] [(.int (1 : Int32)), (.int (if w5 = r then 1 else 0))])) t_
        exact k_
      refine Go.via (B := T23.setTop (mkF m 62 #[.val (.int p0), .val (.int p1), .val (.int (5 : Int32)), .val (.int j), .val (.ref w5), .val (.ref r), .val (.int (1 : Int32))] [])) (fun t_ k_ => XS.icmpNo X23.here hx rfl (hb hby at_59) rfl ((teq (if_pos (hk.mpr hij))).2) k_) ?_
      refine Go.via (B := T23.setTop (mkF m 67 #[.val (.int p0), .val (.int p1), .val (.int (5 : Int32)), .val (.int j), .val (.ref w5), .val (.ref r), .val (.int (1 : Int32))] [(.int (1 : Int32))])) (fun t_ k_ => ?_) ?_
      · show Steps p.tables e below (T23.setTop (mkF m 62 #[.val (.int p0), .val (.int p1), .val (.int (5 : Int32)), .val (.int j), .val (.ref w5), .val (.ref r), .val (.int (1 : Int32))] [])) t_
        refine XS.iconst X23.here hx rfl (hb hby at_62) ?_
        show Steps p.tables e below (T23.setTop (mkF m 63 #[.val (.int p0), .val (.int p1), .val (.int (5 : Int32)), .val (.int j), .val (.ref w5), .val (.ref r), .val (.int (1 : Int32))] [(.int (1 : Int32))])) t_
        refine XS.goto X23.here hx rfl (pc0 := 63) (pc' := 67) rfl (hb hby at_63) (by decide) (by decide) ?_
        show Steps p.tables e below (T23.setTop (mkF m 67 #[.val (.int p0), .val (.int p1), .val (.int (5 : Int32)), .val (.int j), .val (.ref w5), .val (.ref r), .val (.int (1 : Int32))] [(.int (1 : Int32))])) t_
        exact k_
      exact Go.leave X23 hlk (v := (some (.int (1 : Int32)))) (fun h => by rw [hrt] at h; cases h) (fun fs hr => retN X23 hx (t := .boolean) hrt (by simp) (hb hby at_67) hr) (by decide) (by decide) (⟨rfl, N23⟩)
    · refine Go.via (B := T11.setTop (mkF m 33 #[.val (.int p0), .val (.int p1), .val (.int (5 : Int32)), .val (.int j), .val (.ref w5), .val (.ref r), .unset] [])) (fun t_ k_ => XS.icmpNo X11.here hx rfl (hb hby at_30) rfl ((feq hij).1) k_) ?_
      refine Go.via (B := T11.setTop (mkF m 35 #[.val (.int p0), .val (.int p1), .val (.int (5 : Int32)), .val (.int j), .val (.ref w5), .val (.ref r), .unset] [(.int (4 : Int32)), (.int (5 : Int32))])) (fun t_ k_ => ?_) ?_
      · show Steps p.tables e below (T11.setTop (mkF m 33 #[.val (.int p0), .val (.int p1), .val (.int (5 : Int32)), .val (.int j), .val (.ref w5), .val (.ref r), .unset] [])) t_
        refine XS.iloadN X11.here hx rfl (hb hby at_33) rfl ?_
        show Steps p.tables e below (T11.setTop (mkF m 34 #[.val (.int p0), .val (.int p1), .val (.int (5 : Int32)), .val (.int j), .val (.ref w5), .val (.ref r), .unset] [(.int (5 : Int32))])) t_
        refine XS.iconst X11.here hx rfl (hb hby at_34) ?_
        show Steps p.tables e below (T11.setTop (mkF m 35 #[.val (.int p0), .val (.int p1), .val (.int (5 : Int32)), .val (.int j), .val (.ref w5), .val (.ref r), .unset] [(.int (4 : Int32)), (.int (5 : Int32))])) t_
        exact k_
      refine Go.via (B := T11.setTop (mkF m 47 #[.val (.int p0), .val (.int p1), .val (.int (5 : Int32)), .val (.int j), .val (.ref w5), .val (.ref r), .unset] [])) (fun t_ k_ => XS.icmpYes X11.here hx rfl (pc0 := 35) (pc' := 47) rfl (hb hby at_35) rfl ((feq (by decide : ¬ (5 : Int32) = (4 : Int32))).2) (by decide) (by decide) k_) ?_
      refine Go.via (B := T11.setTop (mkF m 54 #[.val (.int p0), .val (.int p1), .val (.int (5 : Int32)), .val (.int j), .val (.ref w5), .val (.ref r), .val (.int (0 : Int32))] [(.ref r), (.ref w5)])) (fun t_ k_ => ?_) ?_
      · show Steps p.tables e below (T11.setTop (mkF m 47 #[.val (.int p0), .val (.int p1), .val (.int (5 : Int32)), .val (.int j), .val (.ref w5), .val (.ref r), .unset] [])) t_
        refine XS.iconst X11.here hx rfl (hb hby at_47) ?_
        show Steps p.tables e below (T11.setTop (mkF m 48 #[.val (.int p0), .val (.int p1), .val (.int (5 : Int32)), .val (.int j), .val (.ref w5), .val (.ref r), .unset] [(.int (0 : Int32))])) t_
        refine XS.istore X11.here hx rfl (hb hby at_48) rfl (l' := #[.val (.int p0), .val (.int p1), .val (.int (5 : Int32)), .val (.int j), .val (.ref w5), .val (.ref r), .val (.int (0 : Int32))]) rfl ?_
        show Steps p.tables e below (T11.setTop (mkF m 50 #[.val (.int p0), .val (.int p1), .val (.int (5 : Int32)), .val (.int j), .val (.ref w5), .val (.ref r), .val (.int (0 : Int32))] [])) t_
        refine XS.aload X11.here hx rfl (hb hby at_50) rfl rfl ?_
        show Steps p.tables e below (T11.setTop (mkF m 52 #[.val (.int p0), .val (.int p1), .val (.int (5 : Int32)), .val (.int j), .val (.ref w5), .val (.ref r), .val (.int (0 : Int32))] [(.ref w5)])) t_
        refine XS.aload X11.here hx rfl (hb hby at_52) rfl rfl ?_
        show Steps p.tables e below (T11.setTop (mkF m 54 #[.val (.int p0), .val (.int p1), .val (.int (5 : Int32)), .val (.int j), .val (.ref w5), .val (.ref r), .val (.int (0 : Int32))] [(.ref r), (.ref w5)])) t_
        exact k_
      obtain ⟨cq24, kq24, q24a, q24b, q24c⟩ := isOf hZ e11 E5
      obtain ⟨_, _, ⟨T24, L24, k24, n24⟩, -, X24, ⟨Lc24, hQ24, l24, y24, z24⟩, st24⟩ := X11.virtualBack hx (y := (⟨"com/example/stylesheet_processor/stylesheetprocessor/model/AtomicType", "derivesFrom", "(Lcom/example/stylesheet_processor/stylesheetprocessor/model/AtomicType;)Z"⟩ : MethodName)) (z := (⟨"com/example/stylesheet_processor/stylesheetprocessor/model/AtomicType", "derivesFrom", "(Lcom/example/stylesheet_processor/stylesheetprocessor/model/AtomicType;)Z"⟩ : MethodName)) hown (mvT hZ (hw _ (List.mem_of_getElem? (i := 10) rfl))) (mvT hZ (hw _ (List.mem_of_getElem? (i := 11) rfl))) (notFace_of_selects (args := #[]) (mvT hZ (hw _ (List.mem_of_getElem? (i := 31) rfl)))) (mvT hZ (hw _ (List.mem_of_getElem? (i := 31) rfl))) (mvT hZ (hw _ (List.mem_of_getElem? (i := 12) rfl))) (by decide) (backOf (W := 0) (rm2a l Z a0 hw [] w5 r  h0 n0 Z0 B5) hZ (hw _ (List.mem_of_getElem? (i := 14) rfl)) (hw _ (List.mem_of_getElem? (i := 6) rfl)) (by decide) (by decide)) q24a q24c (g := (mkF m 54 #[.val (.int p0), .val (.int p1), .val (.int (5 : Int32)), .val (.int j), .val (.ref w5), .val (.ref r), .val (.int (0 : Int32))] [(.ref r), (.ref w5)])) rfl (by rw [hml]; rfl) (Steps.refl _) (argsL := [(.ref r)]) (rest := []) (lenOf pd1 rfl) rfl (by show 2 * 0 + _ ≤ _; exact Nat.le_of_eq rfl) (hb hby at_54) (fun _ _ => ⟨rfl, e11, (by decide : 0 + 0 ≤ _), (by decide : 0 + 0 ≤ _)⟩)
      dsimp only [Pt.U, Pt.locs, Pt.cells, Pt.slots] at X24 l24 y24 z24 st24 hQ24
      subst l24 y24 z24
      obtain ⟨rfl, N24q, e24⟩ := hQ24
      have N24 := Fr.app N11 N24q
      refine Go.via (fun t_ k_ => st24.trans k_) ?_
      show Go p.tables e below _ (T24.setTop (mkF m 57 #[.val (.int p0), .val (.int p1), .val (.int (5 : Int32)), .val (.int j), .val (.ref w5), .val (.ref r), .val (.int (0 : Int32))] [(.int (if w5 = r then 1 else 0))]))
      refine Go.via (B := T24.setTop (mkF m 59 #[.val (.int p0), .val (.int p1), .val (.int (5 : Int32)), .val (.int j), .val (.ref w5), .val (.ref r), .val (.int (0 : Int32))] [(.int (0 : Int32)), (.int (if w5 = r then 1 else 0))])) (fun t_ k_ => ?_) ?_
      · show Steps p.tables e below (T24.setTop (mkF m 57 #[.val (.int p0), .val (.int p1), .val (.int (5 : Int32)), .val (.int j), .val (.ref w5), .val (.ref r), .val (.int (0 : Int32))] [(.int (if w5 = r then 1 else 0))])) t_
        refine XS.iload X24.here hx rfl (hb hby at_57) rfl ?_
        show Steps p.tables e below (T24.setTop (mkF m 59 #[.val (.int p0), .val (.int p1), .val (.int (5 : Int32)), .val (.int j), .val (.ref w5), .val (.ref r), .val (.int (0 : Int32))] [(.int (0 : Int32)), (.int (if w5 = r then 1 else 0))])) t_
        exact k_
      refine Go.via (B := T24.setTop (mkF m 62 #[.val (.int p0), .val (.int p1), .val (.int (5 : Int32)), .val (.int j), .val (.ref w5), .val (.ref r), .val (.int (0 : Int32))] [])) (fun t_ k_ => XS.icmpNo X24.here hx rfl (hb hby at_59) rfl ((teq (if_neg (fun u => hij (hk.mp u)))).2) k_) ?_
      refine Go.via (B := T24.setTop (mkF m 67 #[.val (.int p0), .val (.int p1), .val (.int (5 : Int32)), .val (.int j), .val (.ref w5), .val (.ref r), .val (.int (0 : Int32))] [(.int (1 : Int32))])) (fun t_ k_ => ?_) ?_
      · show Steps p.tables e below (T24.setTop (mkF m 62 #[.val (.int p0), .val (.int p1), .val (.int (5 : Int32)), .val (.int j), .val (.ref w5), .val (.ref r), .val (.int (0 : Int32))] [])) t_
        refine XS.iconst X24.here hx rfl (hb hby at_62) ?_
        show Steps p.tables e below (T24.setTop (mkF m 63 #[.val (.int p0), .val (.int p1), .val (.int (5 : Int32)), .val (.int j), .val (.ref w5), .val (.ref r), .val (.int (0 : Int32))] [(.int (1 : Int32))])) t_
        refine XS.goto X24.here hx rfl (pc0 := 63) (pc' := 67) rfl (hb hby at_63) (by decide) (by decide) ?_
        show Steps p.tables e below (T24.setTop (mkF m 67 #[.val (.int p0), .val (.int p1), .val (.int (5 : Int32)), .val (.int j), .val (.ref w5), .val (.ref r), .val (.int (0 : Int32))] [(.int (1 : Int32))])) t_
        exact k_
      exact Go.leave X24 hlk (v := (some (.int (1 : Int32)))) (fun h => by rw [hrt] at h; cases h) (fun fs hr => retN X24 hx (t := .boolean) hrt (by simp) (hb hby at_67) hr) (by decide) (by decide) (⟨rfl, N24⟩)
set_option maxRecDepth 65536 in
set_option maxHeartbeats 40000000 in
theorem comes_1 {Post : Tables → Env → Array Value → State → Outcome → State → Prop} (hpost : ∀ tb e args s v u, (limb_1_1.after args s (.returned v) u = true ∧ limb_1_2.after args s (.returned v) u = true ∧ True) → FrameEnd s (.returned v) u (Jvm.fieldLocs frame_1_writes args s ++ Jvm.arrayLocs frame_1_arrays args s ++ Jvm.staticLocs frame_1_statics s) 0 0 → Post tb e args s (.returned v) u) :
    ArmFor flags0 classFile x code maxLocals ret World_1 tables_1 room_1 Calls_1 rest_1 Pre_1 Post := by
  intro l hfl _ _ p e ha hc hk s m args below hf hA hF happ hP
  obtain ⟨hcalls, hrest, hpre⟩ := hP
  obtain ⟨-, -, -, hnamed, -, -, -, hat⟩ := (Spec.applies_iff hf).mp happ
  obtain ⟨hg, hn⟩ := and_e (Cond.before_iff.mp (show (Jvm.Cond.and given_1 narrow_1).before args s = true from hpre))
  obtain ⟨hcount, hg0⟩ := and_e hg
  obtain ⟨ha0, hg1⟩ := and_e hg0
  have ha1 := hg1
  obtain ⟨v0, v1, rfl⟩ : ∃ v0 v1 : Value, args = #[v0, v1] := by
    have hs : args.size = 2 := by simpa [Cond.value, given_1] using hcount
    obtain ⟨L⟩ := args
    match L, hs with
    | [v0, v1], _ => exact ⟨v0, v1, rfl⟩
  have hw := fun d (hd : d ∈ tables_1) => atoms_spec (ws := Jvm.Cond.code x code maxLocals ret :: tables_1) hat d (List.mem_cons_of_mem _ hd)
  have hfit : Fit s := fun {y c} hc i hi => by
    obtain ⟨ha, rfl⟩ := Array.getElem?_eq_some_iff.mp hc
    have q := List.all_eq_true.mp ((Array.all_eq_true_iff_forall_mem.mp hF) _ (Array.getElem_mem ha)) i (List.mem_range.mpr hi)
    simpa [Array.getElem?_eq_getElem hi] using q
  obtain ⟨i0, ei0⟩ := is_v ha0
  obtain rfl : v0 = (.int i0) := Option.some.inj ei0
  obtain ⟨i1, ei1⟩ := is_v ha1
  obtain rfl : v1 = (.int i1) := Option.some.inj ei1
  obtain ⟨x0, r0⟩ := and_e hn
  obtain ⟨x3, r1⟩ := and_e r0
  obtain ⟨o0, r2⟩ := and_e r1
  obtain ⟨x2, r3⟩ := and_e r2
  obtain ⟨x1, r4⟩ := and_e r3
  obtain ⟨o2, r5⟩ := and_e r4
  obtain ⟨x5, r6⟩ := and_e r5
  obtain ⟨x4, r7⟩ := and_e r6
  obtain ⟨o4, r8⟩ := and_e r7
  obtain ⟨o3, r9⟩ := and_e r8
  obtain ⟨o5, r10⟩ := and_e r9
  have o1 := r10
  obtain ⟨w0, ev0⟩ := exa_v x0
  have X0 := Exa.start ev0 x0
  have S0 := Sta.start ev0 (Or.inr ⟨(hw _ (List.mem_of_getElem? (i := 6) rfl)), (hw _ (List.mem_of_getElem? (i := 7) rfl))⟩)
  obtain ⟨w1, ev1⟩ := exa_v x1
  have X1 := Exa.start ev1 x1
  have S1 := Sta.start ev1 (Or.inr ⟨(hw _ (List.mem_of_getElem? (i := 6) rfl)), (hw _ (List.mem_of_getElem? (i := 20) rfl))⟩)
  obtain ⟨w2, ev2⟩ := exa_v x2
  have X2 := Exa.start ev2 x2
  have S2 := Sta.start ev2 (Or.inr ⟨(hw _ (List.mem_of_getElem? (i := 6) rfl)), (hw _ (List.mem_of_getElem? (i := 18) rfl))⟩)
  obtain ⟨w3, ev3⟩ := exa_v x3
  have X3 := Exa.start ev3 x3
  have S3 := Sta.start ev3 (Or.inr ⟨(hw _ (List.mem_of_getElem? (i := 6) rfl)), (hw _ (List.mem_of_getElem? (i := 9) rfl))⟩)
  obtain ⟨w4, ev4⟩ := exa_v x4
  have X4 := Exa.start ev4 x4
  have S4 := Sta.start ev4 (Or.inr ⟨(hw _ (List.mem_of_getElem? (i := 6) rfl)), (hw _ (List.mem_of_getElem? (i := 26) rfl))⟩)
  obtain ⟨w5, ev5⟩ := exa_v x5
  have X5 := Exa.start ev5 x5
  have S5 := Sta.start ev5 (Or.inr ⟨(hw _ (List.mem_of_getElem? (i := 6) rfl)), (hw _ (List.mem_of_getElem? (i := 24) rfl))⟩)
  have B0 := Fld.start ((fld_at ev0).symm.trans (null_v o0))
  have B1 := Fld.start ((fld_at ev1).symm.trans (null_v o1))
  have B2 := Fld.start ((fld_at ev2).symm.trans (null_v o2))
  have B3 := Fld.start ((fld_at ev3).symm.trans (null_v o3))
  have B4 := Fld.start ((fld_at ev4).symm.trans (own_eqr o4 ev3))
  have B5 := Fld.start ((fld_at ev5).symm.trans (null_v o5))
  have hnd : [w0, w1, w2, w3, w4, w5].Nodup := by
    simp only [List.nodup_cons, List.mem_cons, List.not_mem_nil, or_false, not_or, List.nodup_nil, and_true, not_false_eq_true]
    exact ⟨⟨ne_exa X0 X1 (by decide), ne_exa X0 X2 (by decide), ne_exa X0 X3 (by decide), ne_exa X0 X4 (by decide), ne_exa X0 X5 (by decide)⟩, ⟨ne_exa X1 X2 (by decide), ne_exa X1 X3 (by decide), ne_exa X1 X4 (by decide), ne_exa X1 X5 (by decide)⟩, ⟨ne_exa X2 X3 (by decide), ne_exa X2 X4 (by decide), ne_exa X2 X5 (by decide)⟩, ⟨ne_exa X3 X4 (by decide), ne_exa X3 X5 (by decide)⟩, ne_exa X4 X5 (by decide)⟩
  obtain ⟨n, o, h1, h2, h3, _, L, rfl, ⟨rfl, N⟩, hq⟩ := rm0 l s _ hw tables_1 i0 i1 w0 w1 w2 w3 w4 w5 s.heap s.heap.size (Nat.le_refl _) S0 S1 S2 S3 S4 S5 X0 X1 X2 X3 X4 X5 B0 B1 B2 B3 B4 B5 hnd p e ha hc hk s m _ below hf ((Spec.applies_iff_loose hf).mp happ).1 ⟨rfl, State.Warmed39.refl s, rfl⟩ trivial
  refine ⟨n, _, h1, h2, h3, hpost _ _ _ _ _ _ ⟨Cond.after_iff.mpr rfl, Cond.after_iff.mpr (eq_i res_at (Term.int_eval (1)) rfl), trivial⟩ ⟨hq.1, hq.2.1, (hq.2.2.sift fun y hy => Or.inr (N y hy)).mono (by decide) (by decide)⟩⟩
theorem main_1_1 : Claimed_1_1 := comes_1 fun _ _ _ _ _ _ h hF => ⟨h.1, hF⟩
theorem main_1_2 : Claimed_1_2 := comes_1 fun _ _ _ _ _ _ h hF => ⟨h.2.1, hF⟩
end Jvm.Pilot.@@N@@
namespace Jvm.Pilot.@@N@@
open Jvm Jvm.ClassFile Sem Op Lib Jvm.Free Jvm.Stand Jvm.Pilot.@@N@@.Jvm.D
/-! MADE BY PROGRAM (witnessworld.py) out of the Statement's table words and the real class files: 18 classes; the members and pool entries that the words name. The judged class is class 1, her method 2. -/
namespace start1
open Jvm.ClassFile
def u (s : String) : CpInfo := .utf8 (stringToUtf16 s)
/-- a pool by its gaps: so many unusable entries, then the entry; so many at the end -/
def gap : Nat → List CpInfo → List CpInfo
  | 0, r => r
  | n + 1, r => .unusable :: gap n r
def poolList (es : List (Nat × CpInfo)) (last : Nat) : List CpInfo := es.foldr (fun e r => gap e.1 (e.2 :: r)) (gap last [])
def pool (es : List (Nat × CpInfo)) (last : Nat) : Array CpInfo := ⟨poolList es last⟩
def fileOf (pool : Array CpInfo) (this : Nat) (attrs : Array Attribute := #[]) (ms : Array MethodInfo := #[]) (fl : Nat := 33) (sup : Nat := 0) (ifs : Array Nat := #[]) (fds : Array FieldInfo := #[]) : ClassFile where
  minorVersion := 0
  majorVersion := 65
  constantPool := pool
  accessFlags := fl
  thisClass := this
  superClass := sup
  interfaces := ifs
  fields := fds
  methods := ms
  attributes := attrs
def plain (name : String) (sup : Option ClassId) : Class where
  name := name
  kind := .ordinary
  loader := none
  accessFlags := 33
  super := sup
  interfaces := #[]
  cf := none
  fields := #[]
  methods := #[]
  instanceTypes := #[]
  staticTypes := #[]
  resolved := #[]
  callSites := []
  init := .initialized
  statics := none
  mirror := none

def pool0 : Array CpInfo := pool [(5, u "<init>"), (0, u "()V"), (1, .class_ 10), (1, u "java/lang/Object")] 113

def k0m0 : Method := { name := "<init>", desc := "()V", sig := { parameters := [], returnType := none }, accessFlags := 1, code := none }
/-- java/lang/Object -/
def k0 : Class := { plain "java/lang/Object" none with
  accessFlags := 33
  interfaces := #[]
  cf := some (fileOf pool0 8 #[] #[{ accessFlags := 1, nameIndex := 5, descriptorIndex := 6, attributes := #[] }] 33 0 #[] #[])
  fields := #[]
  methods := #[k0m0]
  instanceTypes := #[]
  staticTypes := #[]
  resolved := Array.replicate 124 none
  statics := none }

def pool1 : Array CpInfo := pool [(2, .class_ 4), (1, u "java/lang/Object"), (0, u "<init>"), (0, u "()V"), (0, .fieldref 8 9), (0, .class_ 10), (0, .nameAndType 11 12), (0, u "com/example/stylesheet_processor/stylesheetprocessor/model/AtomicType"), (0, u "UNTYPED_ATOMIC"), (0, u "Lcom/example/stylesheet_processor/stylesheetprocessor/model/AtomicType;"), (0, .fieldref 8 14), (0, .nameAndType 15 12), (0, u "STRING"), (0, .fieldref 8 17), (0, .nameAndType 18 12), (0, u "DOUBLE"), (0, .fieldref 8 20), (0, .nameAndType 21 12), (0, u "DECIMAL"), (0, .fieldref 8 23), (0, .nameAndType 24 12), (0, u "INTEGER"), (0, .fieldref 8 26), (0, .nameAndType 27 12), (0, u "BOOLEAN"), (0, .integer 2147483647), (0, .methodref 30 31), (0, .class_ 32), (0, .nameAndType 33 34), (0, u "com/example/stylesheet_processor/stylesheetprocessor/model/AtomicTypeDerivesFromPinLaw"), (0, u "pick"), (0, u "(I)Lcom/example/stylesheet_processor/stylesheetprocessor/model/AtomicType;"), (0, .methodref 8 36), (0, .nameAndType 37 38), (0, u "derivesFrom"), (0, u "(Lcom/example/stylesheet_processor/stylesheetprocessor/model/AtomicType;)Z"), (3, u "law"), (0, u "(II)Z")] 2

def k1m0 : Method := { name := "<init>", desc := "()V", sig := { parameters := [], returnType := none }, accessFlags := 2, code := none }
def k1c1 : Code := { maxStack := 2, maxLocals := 1, code := method_2_code, exceptionTable := #[], attributes := #[] }
def k1m1 : Method := { name := "pick", desc := "(I)Lcom/example/stylesheet_processor/stylesheetprocessor/model/AtomicType;", sig := { parameters := [.int], returnType := some (.object "com/example/stylesheet_processor/stylesheetprocessor/model/AtomicType") }, accessFlags := 10, code := some k1c1 }
def k1c2 : Code := { maxStack := 2, maxLocals := 7, code := code, exceptionTable := #[], attributes := #[] }
def k1m2 : Method := { name := "law", desc := "(II)Z", sig := { parameters := [.int, .int], returnType := some .boolean }, accessFlags := 9, code := some k1c2 }
/-- com/example/stylesheet_processor/stylesheetprocessor/model/AtomicTypeDerivesFromPinLaw -/
def k1 : Class := { plain "com/example/stylesheet_processor/stylesheetprocessor/model/AtomicTypeDerivesFromPinLaw" (some 0) with
  accessFlags := 49
  interfaces := #[]
  cf := some (fileOf pool1 30 #[] #[{ accessFlags := 2, nameIndex := 5, descriptorIndex := 6, attributes := #[] }, { accessFlags := 10, nameIndex := 33, descriptorIndex := 34, attributes := #[] }, { accessFlags := 9, nameIndex := 42, descriptorIndex := 43, attributes := #[] }] 49 2 #[] #[])
  fields := #[]
  methods := #[k1m0, k1m1, k1m2]
  instanceTypes := #[]
  staticTypes := #[]
  resolved := Array.replicate 46 none
  statics := none }

def pool2 : Array CpInfo := pool [(1, .class_ 2), (0, u "java/lang/constant/Constable"), (0, .class_ 4), (0, u "java/lang/Object")] 6

/-- java/lang/constant/Constable -/
def k2 : Class := { plain "java/lang/constant/Constable" (some 0) with
  accessFlags := 1537
  interfaces := #[]
  cf := some (fileOf pool2 1 #[] #[] 1537 3 #[] #[])
  fields := #[]
  methods := #[]
  instanceTypes := #[]
  staticTypes := #[]
  resolved := Array.replicate 11 none
  statics := none }

def pool3 : Array CpInfo := pool [(1, .class_ 2), (0, u "java/lang/Comparable"), (0, .class_ 4), (0, u "java/lang/Object")] 7

/-- java/lang/Comparable -/
def k3 : Class := { plain "java/lang/Comparable" (some 0) with
  accessFlags := 1537
  interfaces := #[]
  cf := some (fileOf pool3 1 #[] #[] 1537 3 #[] #[])
  fields := #[]
  methods := #[]
  instanceTypes := #[]
  staticTypes := #[]
  resolved := Array.replicate 12 none
  statics := none }

def pool4 : Array CpInfo := pool [(1, .class_ 2), (0, u "java/io/Serializable"), (0, .class_ 4), (0, u "java/lang/Object")] 2

/-- java/io/Serializable -/
def k4 : Class := { plain "java/io/Serializable" (some 0) with
  accessFlags := 1537
  interfaces := #[]
  cf := some (fileOf pool4 1 #[] #[] 1537 3 #[] #[])
  fields := #[]
  methods := #[]
  instanceTypes := #[]
  staticTypes := #[]
  resolved := Array.replicate 7 none
  statics := none }

def pool5 : Array CpInfo := pool [(2, .class_ 4), (1, u "java/lang/Enum"), (0, u "name"), (0, u "Ljava/lang/String;"), (2, u "ordinal"), (0, u "I"), (1, .class_ 14), (1, u "java/lang/Object"), (4, u "hash"), (86, .class_ 108), (1, u "java/lang/Enum$EnumDesc"), (2, .class_ 112), (0, u "java/lang/constant/Constable"), (0, .class_ 114), (0, u "java/lang/Comparable"), (0, .class_ 116), (0, u "java/io/Serializable")] 87

/-- java/lang/Enum -/
def k5 : Class := { plain "java/lang/Enum" (some 0) with
  accessFlags := 1057
  interfaces := #[2, 3, 4]
  cf := some (fileOf pool5 2 #[.nestMembers #[106]] #[] 1057 12 #[111, 113, 115] #[{ accessFlags := 18, nameIndex := 5, descriptorIndex := 6, attributes := #[] }, { accessFlags := 18, nameIndex := 9, descriptorIndex := 10, attributes := #[] }, { accessFlags := 2, nameIndex := 19, descriptorIndex := 10, attributes := #[] }])
  fields := #[{ name := "name", type := (.object "java/lang/String"), accessFlags := 18, slot := 0, constantValue := 0 }, { name := "ordinal", type := .int, accessFlags := 18, slot := 1, constantValue := 0 }, { name := "hash", type := .int, accessFlags := 2, slot := 2, constantValue := 0 }]
  methods := #[]
  instanceTypes := #[(.object "java/lang/String"), .int, .int]
  staticTypes := #[]
  resolved := Array.replicate 204 none
  statics := none }

def pool6 : Array CpInfo := pool [(1, .class_ 2), (0, u "com/example/stylesheet_processor/stylesheetprocessor/model/AtomicType"), (2, u "UNTYPED_ATOMIC"), (0, u "Lcom/example/stylesheet_processor/stylesheetprocessor/model/AtomicType;"), (2, u "STRING"), (2, u "DOUBLE"), (2, u "DECIMAL"), (2, u "INTEGER"), (2, u "BOOLEAN"), (2, u "$VALUES"), (0, u "[Lcom/example/stylesheet_processor/stylesheetprocessor/model/AtomicType;"), (6, .class_ 34), (1, u "java/lang/Enum"), (8, u "localName"), (0, u "Ljava/lang/String;"), (0, .fieldref 1 46), (0, .nameAndType 47 6), (0, u "base"), (2, u "numeric"), (0, u "Z"), (8, u "promotions"), (0, u "Ljava/util/List;"), (25, u "derivesFrom"), (0, u "(Lcom/example/stylesheet_processor/stylesheetprocessor/model/AtomicType;)Z"), (80, u "Ljava/math/BigDecimal;"), (193, .class_ 364), (0, u "com/example/stylesheet_processor/stylesheetprocessor/model/AtomicType$1"), (6, .class_ 372), (0, u "com/example/stylesheet_processor/stylesheetprocessor/model/AtomicType$2"), (4, .class_ 378), (0, u "com/example/stylesheet_processor/stylesheetprocessor/model/AtomicType$3"), (4, .class_ 384), (0, u "com/example/stylesheet_processor/stylesheetprocessor/model/AtomicType$4"), (4, .class_ 390), (0, u "com/example/stylesheet_processor/stylesheetprocessor/model/AtomicType$5"), (3, .class_ 395), (0, u "com/example/stylesheet_processor/stylesheetprocessor/model/AtomicType$6"), (17, u "INTEGER_FORM"), (0, u "Ljava/util/regex/Pattern;"), (4, u "DECIMAL_FORM"), (6, u "DOUBLE_FORM"), (5, u "HALF"), (0, u "PLAIN_DOUBLE_MINIMUM"), (0, u "D"), (3, u "PLAIN_DOUBLE_LIMIT"), (2, u "MAX_DOUBLE_DIGITS"), (0, u "I"), (1, u "QUOTIENT_DIGITS"), (52, .class_ 498), (0, u "com/example/stylesheet_processor/stylesheetprocessor/model/AtomicType$7")] 36

def k6c0 : Code := { maxStack := 2, maxLocals := 3, code := prog_23_method_7_code, exceptionTable := #[], attributes := #[] }
def k6m0 : Method := { name := "derivesFrom", desc := "(Lcom/example/stylesheet_processor/stylesheetprocessor/model/AtomicType;)Z", sig := { parameters := [(.object "com/example/stylesheet_processor/stylesheetprocessor/model/AtomicType")], returnType := some .boolean }, accessFlags := 1, code := some k6c0 }
/-- com/example/stylesheet_processor/stylesheetprocessor/model/AtomicType -/
def k6 : Class := { plain "com/example/stylesheet_processor/stylesheetprocessor/model/AtomicType" (some 5) with
  accessFlags := 17441
  interfaces := #[]
  cf := some (fileOf pool6 1 #[.nestMembers #[497, 394, 389, 383, 377, 371, 363]] #[{ accessFlags := 1, nameIndex := 87, descriptorIndex := 88, attributes := #[] }] 17441 32 #[] #[{ accessFlags := 16409, nameIndex := 5, descriptorIndex := 6, attributes := #[] }, { accessFlags := 16409, nameIndex := 9, descriptorIndex := 6, attributes := #[] }, { accessFlags := 16409, nameIndex := 12, descriptorIndex := 6, attributes := #[] }, { accessFlags := 16409, nameIndex := 15, descriptorIndex := 6, attributes := #[] }, { accessFlags := 16409, nameIndex := 18, descriptorIndex := 6, attributes := #[] }, { accessFlags := 16409, nameIndex := 21, descriptorIndex := 6, attributes := #[] }, { accessFlags := 26, nameIndex := 413, descriptorIndex := 414, attributes := #[] }, { accessFlags := 26, nameIndex := 419, descriptorIndex := 414, attributes := #[] }, { accessFlags := 26, nameIndex := 426, descriptorIndex := 414, attributes := #[] }, { accessFlags := 26, nameIndex := 433, descriptorIndex := 434, attributes := #[] }, { accessFlags := 26, nameIndex := 438, descriptorIndex := 434, attributes := #[] }, { accessFlags := 26, nameIndex := 441, descriptorIndex := 442, attributes := #[] }, { accessFlags := 26, nameIndex := 444, descriptorIndex := 442, attributes := #[] }, { accessFlags := 26, nameIndex := 432, descriptorIndex := 169, attributes := #[] }, { accessFlags := 18, nameIndex := 43, descriptorIndex := 44, attributes := #[] }, { accessFlags := 18, nameIndex := 47, descriptorIndex := 6, attributes := #[] }, { accessFlags := 18, nameIndex := 50, descriptorIndex := 51, attributes := #[] }, { accessFlags := 18, nameIndex := 60, descriptorIndex := 61, attributes := #[] }, { accessFlags := 4122, nameIndex := 24, descriptorIndex := 25, attributes := #[] }])
  fields := #[{ name := "UNTYPED_ATOMIC", type := (.object "com/example/stylesheet_processor/stylesheetprocessor/model/AtomicType"), accessFlags := 16409, slot := 0, constantValue := 0 }, { name := "STRING", type := (.object "com/example/stylesheet_processor/stylesheetprocessor/model/AtomicType"), accessFlags := 16409, slot := 1, constantValue := 0 }, { name := "DOUBLE", type := (.object "com/example/stylesheet_processor/stylesheetprocessor/model/AtomicType"), accessFlags := 16409, slot := 2, constantValue := 0 }, { name := "DECIMAL", type := (.object "com/example/stylesheet_processor/stylesheetprocessor/model/AtomicType"), accessFlags := 16409, slot := 3, constantValue := 0 }, { name := "INTEGER", type := (.object "com/example/stylesheet_processor/stylesheetprocessor/model/AtomicType"), accessFlags := 16409, slot := 4, constantValue := 0 }, { name := "BOOLEAN", type := (.object "com/example/stylesheet_processor/stylesheetprocessor/model/AtomicType"), accessFlags := 16409, slot := 5, constantValue := 0 }, { name := "INTEGER_FORM", type := (.object "java/util/regex/Pattern"), accessFlags := 26, slot := 6, constantValue := 0 }, { name := "DECIMAL_FORM", type := (.object "java/util/regex/Pattern"), accessFlags := 26, slot := 7, constantValue := 0 }, { name := "DOUBLE_FORM", type := (.object "java/util/regex/Pattern"), accessFlags := 26, slot := 8, constantValue := 0 }, { name := "PLAIN_DOUBLE_MINIMUM", type := .double, accessFlags := 26, slot := 9, constantValue := 0 }, { name := "PLAIN_DOUBLE_LIMIT", type := .double, accessFlags := 26, slot := 10, constantValue := 0 }, { name := "MAX_DOUBLE_DIGITS", type := .int, accessFlags := 26, slot := 11, constantValue := 0 }, { name := "QUOTIENT_DIGITS", type := .int, accessFlags := 26, slot := 12, constantValue := 0 }, { name := "HALF", type := (.object "java/math/BigDecimal"), accessFlags := 26, slot := 13, constantValue := 0 }, { name := "localName", type := (.object "java/lang/String"), accessFlags := 18, slot := 3, constantValue := 0 }, { name := "base", type := (.object "com/example/stylesheet_processor/stylesheetprocessor/model/AtomicType"), accessFlags := 18, slot := 4, constantValue := 0 }, { name := "numeric", type := .boolean, accessFlags := 18, slot := 5, constantValue := 0 }, { name := "promotions", type := (.object "java/util/List"), accessFlags := 18, slot := 6, constantValue := 0 }, { name := "$VALUES", type := (.array (.object "com/example/stylesheet_processor/stylesheetprocessor/model/AtomicType")), accessFlags := 4122, slot := 14, constantValue := 0 }]
  methods := #[k6m0]
  instanceTypes := #[(.object "java/lang/String"), .int, .int, (.object "java/lang/String"), (.object "com/example/stylesheet_processor/stylesheetprocessor/model/AtomicType"), .boolean, (.object "java/util/List")]
  staticTypes := #[(.object "com/example/stylesheet_processor/stylesheetprocessor/model/AtomicType"), (.object "com/example/stylesheet_processor/stylesheetprocessor/model/AtomicType"), (.object "com/example/stylesheet_processor/stylesheetprocessor/model/AtomicType"), (.object "com/example/stylesheet_processor/stylesheetprocessor/model/AtomicType"), (.object "com/example/stylesheet_processor/stylesheetprocessor/model/AtomicType"), (.object "com/example/stylesheet_processor/stylesheetprocessor/model/AtomicType"), (.object "java/util/regex/Pattern"), (.object "java/util/regex/Pattern"), (.object "java/util/regex/Pattern"), .double, .double, .int, .int, (.object "java/math/BigDecimal"), (.array (.object "com/example/stylesheet_processor/stylesheetprocessor/model/AtomicType"))]
  resolved := Array.replicate 535 none
  statics := some 0 }

def pool7 : Array CpInfo := pool [(2, .class_ 4), (1, u "com/example/stylesheet_processor/stylesheetprocessor/model/AtomicType"), (22, .class_ 28), (0, u "com/example/stylesheet_processor/stylesheetprocessor/model/AtomicType$1")] 16

/-- com/example/stylesheet_processor/stylesheetprocessor/model/AtomicType$1 -/
def k7 : Class := { plain "com/example/stylesheet_processor/stylesheetprocessor/model/AtomicType$1" (some 6) with
  accessFlags := 16432
  interfaces := #[]
  cf := some (fileOf pool7 27 #[.nestHost 2] #[] 16432 2 #[] #[])
  fields := #[]
  methods := #[]
  instanceTypes := #[(.object "java/lang/String"), .int, .int, (.object "java/lang/String"), (.object "com/example/stylesheet_processor/stylesheetprocessor/model/AtomicType"), .boolean, (.object "java/util/List")]
  staticTypes := #[]
  resolved := Array.replicate 45 none
  statics := none }

def pool8 : Array CpInfo := pool [(1, .class_ 2), (0, u "com/example/stylesheet_processor/stylesheetprocessor/model/AtomicType"), (103, .class_ 108), (1, u "com/example/stylesheet_processor/stylesheetprocessor/model/AtomicType$3")] 99

/-- com/example/stylesheet_processor/stylesheetprocessor/model/AtomicType$3 -/
def k8 : Class := { plain "com/example/stylesheet_processor/stylesheetprocessor/model/AtomicType$3" (some 6) with
  accessFlags := 16432
  interfaces := #[]
  cf := some (fileOf pool8 106 #[.nestHost 1] #[] 16432 1 #[] #[])
  fields := #[]
  methods := #[]
  instanceTypes := #[(.object "java/lang/String"), .int, .int, (.object "java/lang/String"), (.object "com/example/stylesheet_processor/stylesheetprocessor/model/AtomicType"), .boolean, (.object "java/util/List")]
  staticTypes := #[]
  resolved := Array.replicate 208 none
  statics := none }

def pool9 : Array CpInfo := pool [(2, .class_ 4), (1, u "com/example/stylesheet_processor/stylesheetprocessor/model/AtomicType"), (96, .class_ 103), (1, u "com/example/stylesheet_processor/stylesheetprocessor/model/AtomicType$5")] 51

/-- com/example/stylesheet_processor/stylesheetprocessor/model/AtomicType$5 -/
def k9 : Class := { plain "com/example/stylesheet_processor/stylesheetprocessor/model/AtomicType$5" (some 6) with
  accessFlags := 16432
  interfaces := #[]
  cf := some (fileOf pool9 101 #[.nestHost 2] #[] 16432 2 #[] #[])
  fields := #[]
  methods := #[]
  instanceTypes := #[(.object "java/lang/String"), .int, .int, (.object "java/lang/String"), (.object "com/example/stylesheet_processor/stylesheetprocessor/model/AtomicType"), .boolean, (.object "java/util/List")]
  staticTypes := #[]
  resolved := Array.replicate 155 none
  statics := none }

def pool10 : Array CpInfo := pool [(2, .class_ 4), (1, u "com/example/stylesheet_processor/stylesheetprocessor/model/AtomicType"), (142, .class_ 148), (0, u "com/example/stylesheet_processor/stylesheetprocessor/model/AtomicType$4")] 31

/-- com/example/stylesheet_processor/stylesheetprocessor/model/AtomicType$4 -/
def k10 : Class := { plain "com/example/stylesheet_processor/stylesheetprocessor/model/AtomicType$4" (some 6) with
  accessFlags := 16432
  interfaces := #[]
  cf := some (fileOf pool10 147 #[.nestHost 2] #[] 16432 2 #[] #[])
  fields := #[]
  methods := #[]
  instanceTypes := #[(.object "java/lang/String"), .int, .int, (.object "java/lang/String"), (.object "com/example/stylesheet_processor/stylesheetprocessor/model/AtomicType"), .boolean, (.object "java/util/List")]
  staticTypes := #[]
  resolved := Array.replicate 180 none
  statics := none }

def pool11 : Array CpInfo := pool [(2, .class_ 4), (1, u "com/example/stylesheet_processor/stylesheetprocessor/model/AtomicType"), (26, .class_ 32), (0, u "com/example/stylesheet_processor/stylesheetprocessor/model/AtomicType$2")] 19

/-- com/example/stylesheet_processor/stylesheetprocessor/model/AtomicType$2 -/
def k11 : Class := { plain "com/example/stylesheet_processor/stylesheetprocessor/model/AtomicType$2" (some 6) with
  accessFlags := 16432
  interfaces := #[]
  cf := some (fileOf pool11 31 #[.nestHost 2] #[] 16432 2 #[] #[])
  fields := #[]
  methods := #[]
  instanceTypes := #[(.object "java/lang/String"), .int, .int, (.object "java/lang/String"), (.object "com/example/stylesheet_processor/stylesheetprocessor/model/AtomicType"), .boolean, (.object "java/util/List")]
  staticTypes := #[]
  resolved := Array.replicate 52 none
  statics := none }

def pool12 : Array CpInfo := pool [(2, .class_ 4), (1, u "com/example/stylesheet_processor/stylesheetprocessor/model/AtomicType"), (58, .class_ 64), (0, u "com/example/stylesheet_processor/stylesheetprocessor/model/AtomicType$6")] 18

/-- com/example/stylesheet_processor/stylesheetprocessor/model/AtomicType$6 -/
def k12 : Class := { plain "com/example/stylesheet_processor/stylesheetprocessor/model/AtomicType$6" (some 6) with
  accessFlags := 16432
  interfaces := #[]
  cf := some (fileOf pool12 63 #[.nestHost 2] #[] 16432 2 #[] #[])
  fields := #[]
  methods := #[]
  instanceTypes := #[(.object "java/lang/String"), .int, .int, (.object "java/lang/String"), (.object "com/example/stylesheet_processor/stylesheetprocessor/model/AtomicType"), .boolean, (.object "java/util/List")]
  staticTypes := #[]
  resolved := Array.replicate 83 none
  statics := none }

def pool13 : Array CpInfo := pool [(1, u "java/lang/Cloneable"), (0, .class_ 1), (0, u "java/lang/Object"), (0, .class_ 3)] 3

/-- java/lang/Cloneable -/
def k13 : Class := { plain "java/lang/Cloneable" (some 0) with
  accessFlags := 1537
  interfaces := #[]
  cf := some (fileOf pool13 2 #[] #[] 1537 4 #[] #[])
  fields := #[]
  methods := #[]
  instanceTypes := #[]
  staticTypes := #[]
  resolved := Array.replicate 8 none
  statics := none }

/-- the primitive byte -/
def k14 : Class := { plain "byte" none with kind := .primitive 'B', accessFlags := 0x411 }
/-- [B -/
def k15 : Class := { plain "[B" (some 0) with kind := .array 14 .byte, interfaces := #[13, 4], accessFlags := 1041 }

/-- the primitive int -/
def k16 : Class := { plain "int" none with kind := .primitive 'I', accessFlags := 0x411 }
/-- [I -/
def k17 : Class := { plain "[I" (some 0) with kind := .array 16 .int, interfaces := #[13, 4], accessFlags := 1041 }

def heap : Heap := #[{ cls := 6, slots := #[.ref 1, .ref 2, .ref 3, .ref 4, .ref 5, .ref 6, .null, .null, .null, .double 0, .double 0, .int 0, .int 0, .null, .null], vm := .statics 6 },
  { cls := 7, slots := #[.null, .int 0, .int 0, .null, .null, .int 0, .null], vm := .none },
  { cls := 11, slots := #[.null, .int 0, .int 0, .null, .null, .int 0, .null], vm := .none },
  { cls := 8, slots := #[.null, .int 0, .int 0, .null, .null, .int 0, .null], vm := .none },
  { cls := 10, slots := #[.null, .int 0, .int 0, .null, .null, .int 0, .null], vm := .none },
  { cls := 9, slots := #[.null, .int 0, .int 0, .null, .ref 4, .int 0, .null], vm := .none },
  { cls := 12, slots := #[.null, .int 0, .int 0, .null, .null, .int 0, .null], vm := .none }]
def classes : Array Class := #[k0, k1, k2, k3, k4, k5, k6, k7, k8, k9, k10, k11, k12, k13, k14, k15, k16, k17]
def interned : List (Array UInt16 × Addr) := []
def slotsUsed : Nat := 57
def theMethod : MethodId := ⟨1, 2⟩
def args0 : Array Value := #[.int 5, .int 6]
def aboutOver (below : List Frame) : State where
  vm := { classes := classes, interned := interned.toArray }
  heap := heap
  slotsUsed := slotsUsed
  threads := #[{ frames := .invoking theMethod args0 :: below }]
def below0 : List Frame := [.native { method := ⟨0, 0⟩, args := #[] }]
def about1 : State := aboutOver below0
def p0 : Program := .bare "" "" ""
def e0 : Env := launch0.env 0 0 0
theorem w_frames : about1.frames = Frame.invoking theMethod args0 :: below0 := rfl
set_option maxRecDepth 65536 in
theorem w_args : argsFit about1.vm theMethod args0 = true := by decide +kernel
set_option maxRecDepth 65536 in
theorem w_heap : heapFits about1 = true := by decide +kernel
set_option maxRecDepth 65536 in
theorem w_runnable : about1.curStatus? = some .runnable := by decide +kernel
set_option maxRecDepth 65536 in
theorem w_alone : about1.alone = true := by decide +kernel
set_option maxRecDepth 65536 in
theorem w_named : about1.methodNamed? x = some theMethod := by decide +kernel
set_option maxRecDepth 65536 in
theorem w_hears : about1.hears theMethod below0 = true := by decide +kernel
set_option maxRecDepth 65536 in
theorem w_ripe : about1.ripe theMethod args0 below0 = true := by decide +kernel
theorem w_running : about1.status = .running := rfl
set_option maxRecDepth 65536 in
theorem w_room : about1.hasRoom e0.platform room_1 = true :=
  launch0.hasRoom_least _ room_1 (by decide +kernel) (by decide +kernel) (by decide +kernel) (by decide +kernel) (by decide +kernel) (by decide +kernel)
theorem allAtoms_all (ts : List Jvm.Cond) (a : Array Jvm.Value) (st : Jvm.State) : (allAtoms ts).before a st = ts.all (fun c => c.before a st) := by
  induction ts with
  | nil => rfl
  | cons c t ih =>
    show (Jvm.Cond.and c (allAtoms t)).before a st = _
    rw [Jvm.Cond.before_and, ih, List.all_cons]
def words1 : List Jvm.Cond := Jvm.Cond.code x code maxLocals ret :: tables_1
/-- a 'code' word, met by the world's own term for the bytes: nothing is compared byte by byte -/
theorem code_word {y : MethodName} {bytes : ByteArray} {mx : Nat} {rt : Option FieldType} {a : Array Value} {s : State} {m : MethodId} {meth : Method} {c : Code} (h1 : s.methodNamed? y = some m) (h2 : s.vm.method? m = some meth) (h3 : meth.code = some c) (h4 : c.code = bytes)
    (h5 : (c.maxLocals == mx && c.exceptionTable.isEmpty && decide (c.maxStack ≤ mostOperands) && decide (meth.sig.returnType = rt) && !meth.locks && decide (parseMethodDescriptor y.desc = some meth.sig)) = true) : (Jvm.Cond.code y bytes mx rt).before a s = true := by
  simp only [Bool.and_eq_true, beq_iff_eq, Bool.not_eq_true', decide_eq_true_eq] at h5
  obtain ⟨⟨⟨⟨⟨g1, g2⟩, g3⟩, g4⟩, g5⟩, g6⟩ := h5
  simp [Cond.before, Cond.holds, Cond.value, h1, h2, h3, h4, g1, g2, g3, g4, g5, g6]
def isCode : Jvm.Cond → Bool
  | .code _ _ _ _ => true
  | _ => false
theorem all_split {L : List Jvm.Cond} {P : Jvm.Cond → Bool} (h1 : L.all (fun c => isCode c || P c) = true) (h2 : ∀ c ∈ L.filter isCode, P c = true) : L.all P = true := by
  refine List.all_eq_true.mpr fun c hc => ?_
  have h := List.all_eq_true.mp h1 c hc
  rcases Bool.eq_false_or_eq_true (isCode c) with hi | hi
  · exact h2 c (List.mem_filter.mpr ⟨hc, hi⟩)
  · simpa [hi] using h
set_option maxRecDepth 65536 in
theorem w_c0 : (Jvm.Cond.code x code maxLocals ret).before args0 about1 = true := code_word (m := ⟨1, 2⟩) (meth := k1m2) (c := k1c2) (by decide +kernel) rfl rfl rfl (by decide +kernel)
set_option maxRecDepth 65536 in
theorem w_c1 : (Jvm.Cond.code ({ cls := "com/example/stylesheet_processor/stylesheetprocessor/model/AtomicTypeDerivesFromPinLaw", name := "pick", desc := "(I)Lcom/example/stylesheet_processor/stylesheetprocessor/model/AtomicType;" } : Jvm.MethodName) method_2_code (1 : Nat) (Option.some (Jvm.ClassFile.FieldType.object "com/example/stylesheet_processor/stylesheetprocessor/model/AtomicType"))).before args0 about1 = true := code_word (m := ⟨1, 1⟩) (meth := k1m1) (c := k1c1) (by decide +kernel) rfl rfl rfl (by decide +kernel)
set_option maxRecDepth 65536 in
theorem w_c2 : (Jvm.Cond.code ({ cls := "com/example/stylesheet_processor/stylesheetprocessor/model/AtomicType", name := "derivesFrom", desc := "(Lcom/example/stylesheet_processor/stylesheetprocessor/model/AtomicType;)Z" } : Jvm.MethodName) prog_23_method_7_code (3 : Nat) (Option.some Jvm.ClassFile.FieldType.boolean)).before args0 about1 = true := code_word (m := ⟨6, 0⟩) (meth := k6m0) (c := k6c0) (by decide +kernel) rfl rfl rfl (by decide +kernel)
def codes1 : List Jvm.Cond := [Jvm.Cond.code x code maxLocals ret, Jvm.Cond.code ({ cls := "com/example/stylesheet_processor/stylesheetprocessor/model/AtomicTypeDerivesFromPinLaw", name := "pick", desc := "(I)Lcom/example/stylesheet_processor/stylesheetprocessor/model/AtomicType;" } : Jvm.MethodName) method_2_code (1 : Nat) (Option.some (Jvm.ClassFile.FieldType.object "com/example/stylesheet_processor/stylesheetprocessor/model/AtomicType")), Jvm.Cond.code ({ cls := "com/example/stylesheet_processor/stylesheetprocessor/model/AtomicType", name := "derivesFrom", desc := "(Lcom/example/stylesheet_processor/stylesheetprocessor/model/AtomicType;)Z" } : Jvm.MethodName) prog_23_method_7_code (3 : Nat) (Option.some Jvm.ClassFile.FieldType.boolean)]
set_option maxRecDepth 65536 in
theorem codes_eq : words1.filter isCode = codes1 := rfl
theorem w_codes : ∀ c ∈ words1.filter isCode, c.before args0 about1 = true := by
  rw [codes_eq]
  intro c hc
  simp only [codes1, List.mem_cons, List.not_mem_nil, or_false] at hc
  rcases hc with rfl | rfl | rfl
  · exact w_c0
  · exact w_c1
  · exact w_c2
set_option maxRecDepth 65536 in
theorem w_t1 : (words1.take 24).all (fun c => isCode c || c.before args0 about1) = true := by decide +kernel
set_option maxRecDepth 65536 in
theorem w_t2 : (words1.drop 24).all (fun c => isCode c || c.before args0 about1) = true := by decide +kernel
theorem w_tables : (allAtoms (Jvm.Cond.code x code maxLocals ret :: tables_1)).before args0 about1 = true := by
  rw [allAtoms_all]
  show words1.all (fun c => c.before args0 about1) = true
  refine all_split ?_ w_codes
  rw [← List.take_append_drop 24 words1, List.all_append, w_t1, w_t2]
  rfl
set_option maxRecDepth 65536 in
theorem w_case : (Jvm.Cond.and given_1 narrow_1).before args0 about1 = true := by decide +kernel
theorem w_applies : (headSpec (Jvm.Cond.code x code maxLocals ret :: tables_1) room_1).applies x e0.platform about1 = true :=
  (Spec.applies_iff w_frames).mpr ⟨w_running, w_runnable, w_alone, w_named, w_hears, w_ripe, w_room, w_tables⟩
theorem atStart : AtStart classFile x code maxLocals ret World_1 tables_1 room_1 Calls_1 rest_1 Pre_1 launch0 p0 e0 about1 theMethod args0 below0 :=
  ⟨lists_1, trivial, launch0.admits_env _ _ _, launch0.least_env, fairChoices_fair.cas, fairChoices_fair.clock, w_frames, w_args, w_heap, w_applies, trivial, trivial, w_case⟩
end start1
theorem witness_1 : WitnessClaimed_1 := ⟨start1.p0, start1.e0, start1.about1, start1.theMethod, start1.args0, start1.below0, start1.atStart⟩
end Jvm.Pilot.@@N@@
