import JvmDerived
import JvmDerived.Pilot.@@N@@Statement
import JvmDerived.Pilot.@@N@@Code
set_option linter.unusedVariables false
set_option linter.unusedSimpArgs false
namespace Jvm.RoadKit
open Sem ClassFile Op Lib Jvm.Stand Jvm.Free Jvm.LawKit
section New
variable {p : Program} {l : Launch} {e : Env} {R : Room} {s : State} {m : MethodId} {args : Array Value} {below : List Frame} {meth : Method} {c : Code} {T : State} {locs : List Loc} {cells slots : Nat}
theorem retI (X : Stand p l e R s m args below meth c T locs cells slots) (hx : p.tables.exec = Jvm.exec) {pc : Nat} {Ls : Array Slot} {z : Int32} {rest : List Value} (hret : meth.sig.returnType = some .int) (hd : decode c.code pc = .ok (.ireturn, 1)) {fs : List Frame}
    (hl : ∀ (f : JFrame) (acts : List Action), f.method = m → f.locked = none → f.entered = [] → (doReturn e (T.setTop f) acts (some (.int z))).1 = T.setFrames fs) : Steps p.tables e below (T.setTop (mkF m pc Ls (.int z :: rest))) (T.setFrames fs) :=
  retOut X hx hret rfl (Or.inl ⟨rfl, Or.inl rfl, z, rfl⟩) hd hl
theorem retL (X : Stand p l e R s m args below meth c T locs cells slots) (hx : p.tables.exec = Jvm.exec) {pc : Nat} {Ls : Array Slot} {z : Int64} {rest : List Value} (hret : meth.sig.returnType = some .long) (hd : decode c.code pc = .ok (.lreturn, 1)) {fs : List Frame}
    (hl : ∀ (f : JFrame) (acts : List Action), f.method = m → f.locked = none → f.entered = [] → (doReturn e (T.setTop f) acts (some (.long z))).1 = T.setFrames fs) : Steps p.tables e below (T.setTop (mkF m pc Ls (.long z :: rest))) (T.setFrames fs) :=
  retOut X hx hret rfl (Or.inr (Or.inl ⟨rfl, rfl, z, rfl⟩)) hd hl
theorem retA (X : Stand p l e R s m args below meth c T locs cells slots) (hx : p.tables.exec = Jvm.exec) {pc : Nat} {Ls : Array Slot} {w : Value} {t : FieldType} {rest : List Value} (hret : meth.sig.returnType = some t) (ht : t.isReference = true) (hv : w.isRef = true) (hd : decode c.code pc = .ok (.areturn, 1)) {fs : List Frame}
    (hl : ∀ (f : JFrame) (acts : List Action), f.method = m → f.locked = none → f.entered = [] → (doReturn e (T.setTop f) acts (some w)).1 = T.setFrames fs) : Steps p.tables e below (T.setTop (mkF m pc Ls (w :: rest))) (T.setFrames fs) :=
  retOut X hx hret (by cases w <;> first | (simp [Value.isRef] at hv; done) | (cases t <;> first | rfl | (simp [FieldType.isReference] at ht; done))) (Or.inr (Or.inr (Or.inr (Or.inr ⟨rfl, ht, hv⟩)))) hd hl
/-- from here the run comes to an end of which P holds -/
def Go (tb : Tables) (e : Env) (below : List Frame) (P : State → Outcome → Prop) (A : State) : Prop := ∃ s₂ o, Steps tb e below A s₂ ∧ P s₂ o
theorem Go.via {tb : Tables} {e : Env} {below : List Frame} {P : State → Outcome → Prop} {A B : State} (st : ∀ t, Steps tb e below B t → Steps tb e below A t) (g : Go tb e below P B) : Go tb e below P A := by
  obtain ⟨s2, o, h, r⟩ := g
  exact ⟨s2, o, st _ h, r⟩
/-- what a contract says of the end -/
def PQ (s : State) (below : List Frame) (Q : Option Value → Heap → List Loc → Prop) (k n : Nat) (s₂ : State) (o : Outcome) : Prop := s₂.status = .running ∧ Ended s₂ below o ∧ ∃ v L, o = .returned v ∧ Q v s₂.heap L ∧ FrameEnd s o s₂ L k n
theorem Go.leave (X : Stand p l e R s m args below meth c T locs cells slots) (hlk : meth.locks = false) {v : Option Value} (hv : meth.sig.returnType = none → v = none) {A : State} {Q : Option Value → Heap → List Loc → Prop} {k n : Nat}
    (last : ∀ fs : List Frame, (∀ (f : JFrame) (acts : List Action), f.method = m → f.locked = none → f.entered = [] → (doReturn e (T.setTop f) acts v).1 = T.setFrames fs) → Steps p.tables e below A (T.setFrames fs)) (hk : cells ≤ k) (hn : slots ≤ n) (q : Q v T.heap locs) : Go p.tables e below (PQ s below Q k n) A := by
  obtain ⟨fs, hr, hrun, hended, hW, hsame⟩ := X.leave (v := v) hv hlk
  exact ⟨_, _, last fs hr, hrun, hended, _, _, rfl, q, ⟨_, rfl⟩, hW, hsame.mono hk hn⟩
end New
end Jvm.RoadKit
namespace Jvm.Pilot.@@N@@
open Jvm Jvm.ClassFile Sem Op Lib Jvm.Free Jvm.Stand Jvm.LawKit Jvm.RoadKit Bundle Jvm.Pilot.@@N@@.Jvm.D

theorem pd0 : parseMethodDescriptor "(J)Z" = some ⟨[.long], some .boolean⟩ := by decide +kernel
def AL (wO wA wM a : Nat) (q : Int64) : Int32 := if q = 1 then 1 else if q = 0 then (if a = wO then 1 else if a = wA then 1 else 0) else if 1 < q then (if a = wA then 1 else if a = wM then 1 else 0) else 0
def Fits (wO wA wM a : Nat) (lo hi : Int64) : Prop := ∀ q : Int64, (q < lo → AL wO wA wM a q = 0) ∧ (¬ q < lo → hi < q → AL wO wA wM a q = 0) ∧ (¬ q < lo → ¬ hi < q → AL wO wA wM a q = 1)
theorem own_eqi {args : Array Value} {first s : State} {oo : Option Outcome} {idx : List Nat} {t : Term} {k : Int32} (h : (Cond.eq t (Term.int k)).value args first oo s idx = some true) : t.eval args first oo idx s = some (.int k) := by
  obtain ⟨x, y, hx, hy, -, k2⟩ := cmp_v (Or.inl h)
  cases (Term.int_eval k).symm.trans hy
  obtain ⟨z, rfl⟩ := k2
  have hz : z = k := gotT (by simp [Cond.value, hx, Term.int_eval]) h
  rw [hx, hz]
theorem own_q1 {q : Int64} : (q < 0 → ¬ q = 1 ∧ ¬ q = 0 ∧ ¬ 1 < q) ∧ (¬ q < 0 → ¬ q = 0 → ¬ q = 1 → 1 < q) ∧ (q = 0 → q < 1 ∧ ¬ q = 1 ∧ ¬ 1 < q ∧ ¬ q < 0) ∧ (1 < q → ¬ q = 1 ∧ ¬ q = 0 ∧ ¬ q < 1 ∧ ¬ q < 0) ∧ (q < 1 → ¬ q = 0 → q < 0) ∧ (q = 1 → ¬ q < 1 ∧ ¬ 1 < q ∧ ¬ q < 0) := by
  simp only [Int64.lt_iff_toInt_lt, ← Int64.toInt_inj, show (0 : Int64).toInt = 0 from rfl, show (1 : Int64).toInt = 1 from rfl]
  omega
theorem own_big (q : Int64) : ¬ (9223372036854775807 : Int64) < q := by
  have := rng64 q
  rw [Int64.lt_iff_toInt_lt, show (9223372036854775807 : Int64).toInt = 9223372036854775807 from rfl]
  omega
theorem fit_one {wO wA wM a : Nat} (h1 : a ≠ wO) (h2 : a ≠ wA) (h3 : a ≠ wM) : Fits wO wA wM a 1 1 := fun q => by
  have k := own_q1 (q := q)
  by_cases c1 : q = 1
  · have := k.2.2.2.2.2 c1
    simp [AL, c1, h1, h2, h3] <;> simp_all
  · have : AL wO wA wM a q = 0 := by simp [AL, c1, h1, h2, h3]
    refine ⟨fun _ => this, fun _ _ => this, fun u v => ?_⟩
    exfalso
    by_cases c0 : q = 0
    · exact u (k.2.2.1 c0).1
    · by_cases c2 : q < 0
      · exact u (by simp only [Int64.lt_iff_toInt_lt, show (0 : Int64).toInt = 0 from rfl, show (1 : Int64).toInt = 1 from rfl] at *; omega)
      · exact v (k.2.1 c2 c0 c1)
theorem fit_opt {wO wA wM : Nat} (h2 : wO ≠ wA) (h3 : wO ≠ wM) : Fits wO wA wM wO 0 1 := fun q => by
  have k := own_q1 (q := q)
  refine ⟨fun u => ?_, fun u v => ?_, fun u v => ?_⟩
  · have := k.1 u; simp [AL, this.1, this.2.1, this.2.2]
  · have := k.2.2.2.1 v; simp [AL, this.1, this.2.1, v, h2, h3]
  · by_cases c1 : q = 1
    · simp [AL, c1]
    · by_cases c0 : q = 0
      · simp [AL, c0]
      · exact absurd (k.2.1 u c0 c1) v
theorem fit_any {wO wA wM : Nat} : Fits wO wA wM wA 0 9223372036854775807 := fun q => by
  have k := own_q1 (q := q)
  refine ⟨fun u => ?_, fun _ v => absurd v (own_big q), fun u _ => ?_⟩
  · have := k.1 u; simp [AL, this.1, this.2.1, this.2.2]
  · by_cases c1 : q = 1
    · simp [AL, c1]
    · by_cases c0 : q = 0
      · simp [AL, c0]
      · simp [AL, c1, c0, k.2.1 u c0 c1]
theorem fit_more {wO wA wM : Nat} (h1 : wM ≠ wO) (h2 : wM ≠ wA) : Fits wO wA wM wM 1 9223372036854775807 := fun q => by
  have k := own_q1 (q := q)
  refine ⟨fun u => ?_, fun _ v => absurd v (own_big q), fun u _ => ?_⟩
  · by_cases c0 : q = 0
    · simp [AL, c0, h1, h2]
    · have := k.1 (k.2.2.2.2.1 u c0); simp [AL, this.1, this.2.1, this.2.2]
  · by_cases c1 : q = 1
    · simp [AL, c1]
    · by_cases c0 : q = 0
      · exact absurd (k.2.2.1 c0).1 u
      · have n0 : ¬ q < 0 := fun w => u (by simp only [Int64.lt_iff_toInt_lt, show (0 : Int64).toInt = 0 from rfl, show (1 : Int64).toInt = 1 from rfl] at *; omega)
        simp [AL, c1, c0, k.2.1 n0 c0 c1, h2]
theorem own_and3 (x : Int32) : x &&& 3 = 0 ∨ x &&& 3 = 1 ∨ x &&& 3 = 2 ∨ x &&& 3 = 3 := by
  have h := c_and x (3 : Int32) (by decide)
  have e3 : (3 : Int32).toInt = 3 := rfl
  have q : (x &&& 3).toInt = 0 ∨ (x &&& 3).toInt = 1 ∨ (x &&& 3).toInt = 2 ∨ (x &&& 3).toInt = 3 := by omega
  rcases q with q | q | q | q
  · exact Or.inl (Int32.toInt_inj.mp q)
  · exact Or.inr (Or.inl (Int32.toInt_inj.mp q))
  · exact Or.inr (Or.inr (Or.inl (Int32.toInt_inj.mp q)))
  · exact Or.inr (Or.inr (Or.inr (Int32.toInt_inj.mp q)))
theorem d1_0 : decode prog_122_method_4_code 0 = .ok (.lload_n 1, 1) := by decide +kernel
theorem d1_1 : decode prog_122_method_4_code 1 = .ok (.lconst 1, 1) := by decide +kernel
theorem d1_2 : decode prog_122_method_4_code 2 = .ok (.lcmp, 1) := by decide +kernel
theorem d1_3 : decode prog_122_method_4_code 3 = .ok (.ifCond .eq 43, 3) := by decide +kernel
theorem d1_6 : decode prog_122_method_4_code 6 = .ok (.lload_n 1, 1) := by decide +kernel
theorem d1_7 : decode prog_122_method_4_code 7 = .ok (.lconst 0, 1) := by decide +kernel
theorem d1_8 : decode prog_122_method_4_code 8 = .ok (.lcmp, 1) := by decide +kernel
theorem d1_9 : decode prog_122_method_4_code 9 = .ok (.ifCond .ne 17, 3) := by decide +kernel
theorem d1_12 : decode prog_122_method_4_code 12 = .ok (.aload_n 0, 1) := by decide +kernel
theorem d1_13 : decode prog_122_method_4_code 13 = .ok (.getstatic 7, 3) := by decide +kernel
theorem d1_16 : decode prog_122_method_4_code 16 = .ok (.if_acmp .eq 30, 3) := by decide +kernel
theorem d1_19 : decode prog_122_method_4_code 19 = .ok (.aload_n 0, 1) := by decide +kernel
theorem d1_20 : decode prog_122_method_4_code 20 = .ok (.getstatic 10, 3) := by decide +kernel
theorem d1_23 : decode prog_122_method_4_code 23 = .ok (.if_acmp .eq 23, 3) := by decide +kernel
theorem d1_26 : decode prog_122_method_4_code 26 = .ok (.lload_n 1, 1) := by decide +kernel
theorem d1_27 : decode prog_122_method_4_code 27 = .ok (.lconst 1, 1) := by decide +kernel
theorem d1_28 : decode prog_122_method_4_code 28 = .ok (.lcmp, 1) := by decide +kernel
theorem d1_29 : decode prog_122_method_4_code 29 = .ok (.ifCond .le 21, 3) := by decide +kernel
theorem d1_32 : decode prog_122_method_4_code 32 = .ok (.aload_n 0, 1) := by decide +kernel
theorem d1_33 : decode prog_122_method_4_code 33 = .ok (.getstatic 10, 3) := by decide +kernel
theorem d1_36 : decode prog_122_method_4_code 36 = .ok (.if_acmp .eq 10, 3) := by decide +kernel
theorem d1_39 : decode prog_122_method_4_code 39 = .ok (.aload_n 0, 1) := by decide +kernel
theorem d1_40 : decode prog_122_method_4_code 40 = .ok (.getstatic 13, 3) := by decide +kernel
theorem d1_43 : decode prog_122_method_4_code 43 = .ok (.if_acmp .ne 7, 3) := by decide +kernel
theorem d1_46 : decode prog_122_method_4_code 46 = .ok (.iconst 1, 1) := by decide +kernel
theorem d1_47 : decode prog_122_method_4_code 47 = .ok (.goto 4, 3) := by decide +kernel
theorem d1_50 : decode prog_122_method_4_code 50 = .ok (.iconst 0, 1) := by decide +kernel
theorem d1_51 : decode prog_122_method_4_code 51 = .ok (.ireturn, 1) := by decide +kernel
theorem pn_1 : plainName "com/example/shelfmark/shelfmark/xquery/expr/SequenceType$Occurrence" = true := by first | (simp [plainName, overriddenIn]; done) | decide +kernel
theorem ef_1 (m : MethodId) (x0 : Addr) (x1 : Int64) : entryFrame m #[(.ref x0), (.long x1)] 3 = mkF m 0 #[.val (.ref x0), .val (.long x1), .second] [] := by first | (simp [entryFrame, mkF, argsToLocals, Value.category]; done) | rfl
def Q1 (Z : State) (a : Addr) (q : Int64) (wO : Addr) (wA : Addr) (wM : Addr) (h0 : Heap) (n0 : Nat) (v : Option Value) (h : Heap) (L : List Loc) : Prop := v = some (.int (AL wO wA wM a q)) ∧ Fr n0 L ∧ h = h0
set_option maxRecDepth 65536 in
set_option maxHeartbeats 40000000 in
theorem rm1 (l : Launch) (Z : State) (a0 : Array Value) (hw : ∀ d ∈ tables_1, d.before a0 Z = true) (ws : List Jvm.Cond) (a : Addr) (q : Int64) (wO : Addr) (wA : Addr) (wM : Addr) (h0 : Heap) (n0 : Nat) (Z0 : n0 ≤ h0.size) (SO : Sta Z h0 "com/example/shelfmark/shelfmark/xquery/expr/SequenceType$Occurrence" "OPTIONAL" "Lcom/example/shelfmark/shelfmark/xquery/expr/SequenceType$Occurrence;" (.ref wO)) (SA : Sta Z h0 "com/example/shelfmark/shelfmark/xquery/expr/SequenceType$Occurrence" "ANY" "Lcom/example/shelfmark/shelfmark/xquery/expr/SequenceType$Occurrence;" (.ref wA)) (SM : Sta Z h0 "com/example/shelfmark/shelfmark/xquery/expr/SequenceType$Occurrence" "ONE_OR_MORE" "Lcom/example/shelfmark/shelfmark/xquery/expr/SequenceType$Occurrence;" (.ref wM)) :
    MetFree l (⟨"com/example/shelfmark/shelfmark/xquery/expr/SequenceType$Occurrence", "allows", "(J)Z"⟩ : MethodName) (head1 (Jvm.Cond.code (⟨"com/example/shelfmark/shelfmark/xquery/expr/SequenceType$Occurrence", "allows", "(J)Z"⟩ : MethodName) prog_122_method_4_code 3 (some .boolean) :: ws) ({ frames := 0, cells := 0, slots := 0, locals := 0 } : Room)) (fun a_ U_ => a_ = #[(.ref a), (.long q)] ∧ Z.Warmed39 U_.vm ∧ U_.heap = h0) (fun _ _ _ _ _ => True) (fun _ U_ o_ V_ => ∃ v_ L_, o_ = .returned v_ ∧ Q1 Z a q wO wA wM h0 n0 v_ V_.heap L_ ∧ FrameEnd U_ o_ V_ L_ ({ frames := 0, cells := 0, slots := 0, locals := 0 } : Room).cells ({ frames := 0, cells := 0, slots := 0, locals := 0 } : Room).slots) := by
  refine MetFree.of_bodySF (plainFor_of_name pn_1) hisR ?_
  intro p e s m args below meth c s₁ Bd hml0 hP hK
  obtain ⟨rfl, hZ, hh⟩ := hP
  have hx := Bd.exec
  have hby := Bd.bytes
  have hml : c.maxLocals = 3 := hml0
  have hown : s.vm.findClass "com/example/shelfmark/shelfmark/xquery/expr/SequenceType$Occurrence" = some m.cls := findClass_of_methodNamed Bd.named
  have hnm := (name_of_methodNamed Bd.named Bd.method).1
  have hlk : meth.locks = false := BodyLoose.notSynchronized Bd
  have hrt := Bd.returns
  have X0 : Stand p l e ({ frames := 0, cells := 0, slots := 0, locals := 0 } : Room) s m #[(.ref a), (.long q)] below meth c s₁ [] 0 0 := Stand.of_body Bd
  have e0 : s₁.heap = h0 := by rw [← hh, Bd.state]; rfl
  have N0 := Fr.nil n0
  show Go p.tables e below (PQ s below (Q1 Z a q wO wA wM h0 n0) 0 0) _
  refine Go.via (B := s₁.setTop (mkF m 0 #[.val (.ref a), .val (.long q), .second] [])) (fun t_ k_ => castTop (ef_1 m a q) k_) ?_
  refine Go.via (B := s₁.setTop (mkF m 3 #[.val (.ref a), .val (.long q), .second] [(.int (lcmpW q (1 : Int64)))])) (fun t_ k_ => ?_) ?_
  · show Steps p.tables e below (s₁.setTop (mkF m 0 #[.val (.ref a), .val (.long q), .second] [])) t_
    refine XS.lloadN X0.here hx rfl (hb hby d1_0) rfl ?_
    show Steps p.tables e below (s₁.setTop (mkF m 1 #[.val (.ref a), .val (.long q), .second] [(.long q)])) t_
    refine XS.lconst X0.here hx rfl (hb hby d1_1) ?_
    show Steps p.tables e below (s₁.setTop (mkF m 2 #[.val (.ref a), .val (.long q), .second] [(.long (1 : Int64)), (.long q)])) t_
    refine XS.lcmp X0.here hx rfl (hb hby d1_2) rfl ?_
    show Steps p.tables e below (s₁.setTop (mkF m 3 #[.val (.ref a), .val (.long q), .second] [(.int (lcmpW q (1 : Int64)))])) t_
    exact k_
  by_cases h1 : q = (1 : Int64)
  · refine Go.via (B := s₁.setTop (mkF m 46 #[.val (.ref a), .val (.long q), .second] [])) (fun t_ k_ => XS.ifYes X0.here hx rfl (pc0 := 3) (pc' := 46) rfl (hb hby d1_3) rfl (((if0 _ _).trans (teq ((lw_eq _ _).mpr h1)).1)) (by decide) (by decide) k_) ?_
    refine Go.via (B := s₁.setTop (mkF m 51 #[.val (.ref a), .val (.long q), .second] [(.int (1 : Int32))])) (fun t_ k_ => ?_) ?_
    · show Steps p.tables e below (s₁.setTop (mkF m 46 #[.val (.ref a), .val (.long q), .second] [])) t_
      refine XS.iconst X0.here hx rfl (hb hby d1_46) ?_
      show Steps p.tables e below (s₁.setTop (mkF m 47 #[.val (.ref a), .val (.long q), .second] [(.int (1 : Int32))])) t_
      refine XS.goto X0.here hx rfl (pc0 := 47) (pc' := 51) rfl (hb hby d1_47) (by decide) (by decide) ?_
      show Steps p.tables e below (s₁.setTop (mkF m 51 #[.val (.ref a), .val (.long q), .second] [(.int (1 : Int32))])) t_
      exact k_
    have hAL : AL wO wA wM a q = (1 : Int32) := by rw [AL, if_pos h1]
    exact Go.leave X0 hlk (v := (some (.int (1 : Int32)))) (fun h => by rw [hrt] at h; cases h) (fun fs hr => retN X0 hx (t := .boolean) hrt (by simp) (hb hby d1_51) hr) (by decide) (by decide) (⟨by rw [hAL], N0, e0⟩)
  · refine Go.via (B := s₁.setTop (mkF m 6 #[.val (.ref a), .val (.long q), .second] [])) (fun t_ k_ => XS.ifNo X0.here hx rfl (hb hby d1_3) rfl (((if0 _ _).trans (feq (fun u => h1 ((lw_eq _ _).mp u))).1)) k_) ?_
    refine Go.via (B := s₁.setTop (mkF m 9 #[.val (.ref a), .val (.long q), .second] [(.int (lcmpW q (0 : Int64)))])) (fun t_ k_ => ?_) ?_
    · show Steps p.tables e below (s₁.setTop (mkF m 6 #[.val (.ref a), .val (.long q), .second] [])) t_
      refine XS.lloadN X0.here hx rfl (hb hby d1_6) rfl ?_
      show Steps p.tables e below (s₁.setTop (mkF m 7 #[.val (.ref a), .val (.long q), .second] [(.long q)])) t_
      refine XS.lconst X0.here hx rfl (hb hby d1_7) ?_
      show Steps p.tables e below (s₁.setTop (mkF m 8 #[.val (.ref a), .val (.long q), .second] [(.long (0 : Int64)), (.long q)])) t_
      refine XS.lcmp X0.here hx rfl (hb hby d1_8) rfl ?_
      show Steps p.tables e below (s₁.setTop (mkF m 9 #[.val (.ref a), .val (.long q), .second] [(.int (lcmpW q (0 : Int64)))])) t_
      exact k_
    by_cases hz : q = (0 : Int64)
    · refine Go.via (B := s₁.setTop (mkF m 12 #[.val (.ref a), .val (.long q), .second] [])) (fun t_ k_ => XS.ifNo X0.here hx rfl (hb hby d1_9) rfl (((if0 _ _).trans (teq ((lw_eq _ _).mpr hz)).2)) k_) ?_
      refine Go.via (B := s₁.setTop (mkF m 13 #[.val (.ref a), .val (.long q), .second] [(.ref a)])) (fun t_ k_ => ?_) ?_
      · show Steps p.tables e below (s₁.setTop (mkF m 12 #[.val (.ref a), .val (.long q), .second] [])) t_
        refine XS.aloadN X0.here hx rfl (hb hby d1_12) rfl rfl ?_
        show Steps p.tables e below (s₁.setTop (mkF m 13 #[.val (.ref a), .val (.long q), .second] [(.ref a)])) t_
        exact k_
      obtain ⟨T1, X1, e1, st1⟩ := getS2 X0 hx hZ hown (host := "") (Or.inl (hw _ (List.mem_of_getElem? (i := 17) rfl))) Via.refl e0 SO (g := (mkF m 13 #[.val (.ref a), .val (.long q), .second] [(.ref a)])) rfl (hb hby d1_13)
      refine Go.via st1 ?_
      show Go p.tables e below _ (T1.setTop (mkF m 16 #[.val (.ref a), .val (.long q), .second] [(.ref wO), (.ref a)]))
      by_cases hO1 : a = wO
      · refine Go.via (B := T1.setTop (mkF m 46 #[.val (.ref a), .val (.long q), .second] [])) (fun t_ k_ => Jvm.RoadKit.acmp (g := (mkF m 16 #[.val (.ref a), .val (.long q), .second] [(.ref wO), (.ref a)])) X1 hx rfl rfl rfl (pc0 := 16) (pc' := 46) (same := true) rfl (hb hby d1_16) rfl (decide_eq_true (congrArg Value.ref hO1)) (by decide) (by decide) k_) ?_
        refine Go.via (B := T1.setTop (mkF m 51 #[.val (.ref a), .val (.long q), .second] [(.int (1 : Int32))])) (fun t_ k_ => ?_) ?_
        · show Steps p.tables e below (T1.setTop (mkF m 46 #[.val (.ref a), .val (.long q), .second] [])) t_
          refine XS.iconst X1.here hx rfl (hb hby d1_46) ?_
          show Steps p.tables e below (T1.setTop (mkF m 47 #[.val (.ref a), .val (.long q), .second] [(.int (1 : Int32))])) t_
          refine XS.goto X1.here hx rfl (pc0 := 47) (pc' := 51) rfl (hb hby d1_47) (by decide) (by decide) ?_
          show Steps p.tables e below (T1.setTop (mkF m 51 #[.val (.ref a), .val (.long q), .second] [(.int (1 : Int32))])) t_
          exact k_
        have hAL : AL wO wA wM a q = (1 : Int32) := by rw [AL, if_neg h1, if_pos hz, if_pos hO1]
        exact Go.leave X1 hlk (v := (some (.int (1 : Int32)))) (fun h => by rw [hrt] at h; cases h) (fun fs hr => retN X1 hx (t := .boolean) hrt (by simp) (hb hby d1_51) hr) (by decide) (by decide) (⟨by rw [hAL], N0, e1⟩)
      · refine Go.via (B := T1.setTop (mkF m 19 #[.val (.ref a), .val (.long q), .second] [])) (fun t_ k_ => Jvm.RoadKit.acmp (g := (mkF m 16 #[.val (.ref a), .val (.long q), .second] [(.ref wO), (.ref a)])) X1 hx rfl rfl rfl (pc0 := 16) (pc' := 19) (same := false) rfl (hb hby d1_16) rfl (decide_eq_false fun u => hO1 (Value.ref.inj u)) (by decide) (by decide) k_) ?_
        refine Go.via (B := T1.setTop (mkF m 20 #[.val (.ref a), .val (.long q), .second] [(.ref a)])) (fun t_ k_ => ?_) ?_
        · show Steps p.tables e below (T1.setTop (mkF m 19 #[.val (.ref a), .val (.long q), .second] [])) t_
          refine XS.aloadN X1.here hx rfl (hb hby d1_19) rfl rfl ?_
          show Steps p.tables e below (T1.setTop (mkF m 20 #[.val (.ref a), .val (.long q), .second] [(.ref a)])) t_
          exact k_
        obtain ⟨T2, X2, e2, st2⟩ := getS2 X1 hx hZ hown (host := "") (Or.inl (hw _ (List.mem_of_getElem? (i := 8) rfl))) Via.refl e1 SA (g := (mkF m 20 #[.val (.ref a), .val (.long q), .second] [(.ref a)])) rfl (hb hby d1_20)
        refine Go.via st2 ?_
        show Go p.tables e below _ (T2.setTop (mkF m 23 #[.val (.ref a), .val (.long q), .second] [(.ref wA), (.ref a)]))
        by_cases hA1 : a = wA
        · refine Go.via (B := T2.setTop (mkF m 46 #[.val (.ref a), .val (.long q), .second] [])) (fun t_ k_ => Jvm.RoadKit.acmp (g := (mkF m 23 #[.val (.ref a), .val (.long q), .second] [(.ref wA), (.ref a)])) X2 hx rfl rfl rfl (pc0 := 23) (pc' := 46) (same := true) rfl (hb hby d1_23) rfl (decide_eq_true (congrArg Value.ref hA1)) (by decide) (by decide) k_) ?_
          refine Go.via (B := T2.setTop (mkF m 51 #[.val (.ref a), .val (.long q), .second] [(.int (1 : Int32))])) (fun t_ k_ => ?_) ?_
          · show Steps p.tables e below (T2.setTop (mkF m 46 #[.val (.ref a), .val (.long q), .second] [])) t_
            refine XS.iconst X2.here hx rfl (hb hby d1_46) ?_
            show Steps p.tables e below (T2.setTop (mkF m 47 #[.val (.ref a), .val (.long q), .second] [(.int (1 : Int32))])) t_
            refine XS.goto X2.here hx rfl (pc0 := 47) (pc' := 51) rfl (hb hby d1_47) (by decide) (by decide) ?_
            show Steps p.tables e below (T2.setTop (mkF m 51 #[.val (.ref a), .val (.long q), .second] [(.int (1 : Int32))])) t_
            exact k_
          have hAL : AL wO wA wM a q = (1 : Int32) := by rw [AL, if_neg h1, if_pos hz, if_neg hO1, if_pos hA1]
          exact Go.leave X2 hlk (v := (some (.int (1 : Int32)))) (fun h => by rw [hrt] at h; cases h) (fun fs hr => retN X2 hx (t := .boolean) hrt (by simp) (hb hby d1_51) hr) (by decide) (by decide) (⟨by rw [hAL], N0, e2⟩)
        · refine Go.via (B := T2.setTop (mkF m 26 #[.val (.ref a), .val (.long q), .second] [])) (fun t_ k_ => Jvm.RoadKit.acmp (g := (mkF m 23 #[.val (.ref a), .val (.long q), .second] [(.ref wA), (.ref a)])) X2 hx rfl rfl rfl (pc0 := 23) (pc' := 26) (same := false) rfl (hb hby d1_23) rfl (decide_eq_false fun u => hA1 (Value.ref.inj u)) (by decide) (by decide) k_) ?_
          refine Go.via (B := T2.setTop (mkF m 29 #[.val (.ref a), .val (.long q), .second] [(.int (lcmpW q (1 : Int64)))])) (fun t_ k_ => ?_) ?_
          · show Steps p.tables e below (T2.setTop (mkF m 26 #[.val (.ref a), .val (.long q), .second] [])) t_
            refine XS.lloadN X2.here hx rfl (hb hby d1_26) rfl ?_
            show Steps p.tables e below (T2.setTop (mkF m 27 #[.val (.ref a), .val (.long q), .second] [(.long q)])) t_
            refine XS.lconst X2.here hx rfl (hb hby d1_27) ?_
            show Steps p.tables e below (T2.setTop (mkF m 28 #[.val (.ref a), .val (.long q), .second] [(.long (1 : Int64)), (.long q)])) t_
            refine XS.lcmp X2.here hx rfl (hb hby d1_28) rfl ?_
            show Steps p.tables e below (T2.setTop (mkF m 29 #[.val (.ref a), .val (.long q), .second] [(.int (lcmpW q (1 : Int64)))])) t_
            exact k_
          refine Go.via (B := T2.setTop (mkF m 50 #[.val (.ref a), .val (.long q), .second] [])) (fun t_ k_ => XS.ifYes X2.here hx rfl (pc0 := 29) (pc' := 50) rfl (hb hby d1_29) rfl (((if0 _ _).trans (flt (fun u => (own_q1.2.2.1 hz).2.2.1 ((lw_gt _ _).mp u))).2.2.2)) (by decide) (by decide) k_) ?_
          refine Go.via (B := T2.setTop (mkF m 51 #[.val (.ref a), .val (.long q), .second] [(.int (0 : Int32))])) (fun t_ k_ => ?_) ?_
          · show Steps p.tables e below (T2.setTop (mkF m 50 #[.val (.ref a), .val (.long q), .second] [])) t_
            refine XS.iconst X2.here hx rfl (hb hby d1_50) ?_
            show Steps p.tables e below (T2.setTop (mkF m 51 #[.val (.ref a), .val (.long q), .second] [(.int (0 : Int32))])) t_
            exact k_
          have hAL : AL wO wA wM a q = (0 : Int32) := by rw [AL, if_neg h1, if_pos hz, if_neg hO1, if_neg hA1]
          exact Go.leave X2 hlk (v := (some (.int (0 : Int32)))) (fun h => by rw [hrt] at h; cases h) (fun fs hr => retN X2 hx (t := .boolean) hrt (by simp) (hb hby d1_51) hr) (by decide) (by decide) (⟨by rw [hAL], N0, e2⟩)
    · refine Go.via (B := s₁.setTop (mkF m 26 #[.val (.ref a), .val (.long q), .second] [])) (fun t_ k_ => XS.ifYes X0.here hx rfl (pc0 := 9) (pc' := 26) rfl (hb hby d1_9) rfl (((if0 _ _).trans (feq (fun u => hz ((lw_eq _ _).mp u))).2)) (by decide) (by decide) k_) ?_
      refine Go.via (B := s₁.setTop (mkF m 29 #[.val (.ref a), .val (.long q), .second] [(.int (lcmpW q (1 : Int64)))])) (fun t_ k_ => ?_) ?_
      · show Steps p.tables e below (s₁.setTop (mkF m 26 #[.val (.ref a), .val (.long q), .second] [])) t_
        refine XS.lloadN X0.here hx rfl (hb hby d1_26) rfl ?_
        show Steps p.tables e below (s₁.setTop (mkF m 27 #[.val (.ref a), .val (.long q), .second] [(.long q)])) t_
        refine XS.lconst X0.here hx rfl (hb hby d1_27) ?_
        show Steps p.tables e below (s₁.setTop (mkF m 28 #[.val (.ref a), .val (.long q), .second] [(.long (1 : Int64)), (.long q)])) t_
        refine XS.lcmp X0.here hx rfl (hb hby d1_28) rfl ?_
        show Steps p.tables e below (s₁.setTop (mkF m 29 #[.val (.ref a), .val (.long q), .second] [(.int (lcmpW q (1 : Int64)))])) t_
        exact k_
      by_cases hgt : (1 : Int64) < q
      · refine Go.via (B := s₁.setTop (mkF m 32 #[.val (.ref a), .val (.long q), .second] [])) (fun t_ k_ => XS.ifNo X0.here hx rfl (hb hby d1_29) rfl (((if0 _ _).trans (tlt ((lw_gt _ _).mpr hgt)).2.2.2)) k_) ?_
        refine Go.via (B := s₁.setTop (mkF m 33 #[.val (.ref a), .val (.long q), .second] [(.ref a)])) (fun t_ k_ => ?_) ?_
        · show Steps p.tables e below (s₁.setTop (mkF m 32 #[.val (.ref a), .val (.long q), .second] [])) t_
          refine XS.aloadN X0.here hx rfl (hb hby d1_32) rfl rfl ?_
          show Steps p.tables e below (s₁.setTop (mkF m 33 #[.val (.ref a), .val (.long q), .second] [(.ref a)])) t_
          exact k_
        obtain ⟨T3, X3, e3, st3⟩ := getS2 X0 hx hZ hown (host := "") (Or.inl (hw _ (List.mem_of_getElem? (i := 8) rfl))) Via.refl e0 SA (g := (mkF m 33 #[.val (.ref a), .val (.long q), .second] [(.ref a)])) rfl (hb hby d1_33)
        refine Go.via st3 ?_
        show Go p.tables e below _ (T3.setTop (mkF m 36 #[.val (.ref a), .val (.long q), .second] [(.ref wA), (.ref a)]))
        by_cases hA2 : a = wA
        · refine Go.via (B := T3.setTop (mkF m 46 #[.val (.ref a), .val (.long q), .second] [])) (fun t_ k_ => Jvm.RoadKit.acmp (g := (mkF m 36 #[.val (.ref a), .val (.long q), .second] [(.ref wA), (.ref a)])) X3 hx rfl rfl rfl (pc0 := 36) (pc' := 46) (same := true) rfl (hb hby d1_36) rfl (decide_eq_true (congrArg Value.ref hA2)) (by decide) (by decide) k_) ?_
          refine Go.via (B := T3.setTop (mkF m 51 #[.val (.ref a), .val (.long q), .second] [(.int (1 : Int32))])) (fun t_ k_ => ?_) ?_
          · show Steps p.tables e below (T3.setTop (mkF m 46 #[.val (.ref a), .val (.long q), .second] [])) t_
            refine XS.iconst X3.here hx rfl (hb hby d1_46) ?_
            show Steps p.tables e below (T3.setTop (mkF m 47 #[.val (.ref a), .val (.long q), .second] [(.int (1 : Int32))])) t_
            refine XS.goto X3.here hx rfl (pc0 := 47) (pc' := 51) rfl (hb hby d1_47) (by decide) (by decide) ?_
            show Steps p.tables e below (T3.setTop (mkF m 51 #[.val (.ref a), .val (.long q), .second] [(.int (1 : Int32))])) t_
            exact k_
          have hAL : AL wO wA wM a q = (1 : Int32) := by rw [AL, if_neg h1, if_neg hz, if_pos hgt, if_pos hA2]
          exact Go.leave X3 hlk (v := (some (.int (1 : Int32)))) (fun h => by rw [hrt] at h; cases h) (fun fs hr => retN X3 hx (t := .boolean) hrt (by simp) (hb hby d1_51) hr) (by decide) (by decide) (⟨by rw [hAL], N0, e3⟩)
        · refine Go.via (B := T3.setTop (mkF m 39 #[.val (.ref a), .val (.long q), .second] [])) (fun t_ k_ => Jvm.RoadKit.acmp (g := (mkF m 36 #[.val (.ref a), .val (.long q), .second] [(.ref wA), (.ref a)])) X3 hx rfl rfl rfl (pc0 := 36) (pc' := 39) (same := false) rfl (hb hby d1_36) rfl (decide_eq_false fun u => hA2 (Value.ref.inj u)) (by decide) (by decide) k_) ?_
          refine Go.via (B := T3.setTop (mkF m 40 #[.val (.ref a), .val (.long q), .second] [(.ref a)])) (fun t_ k_ => ?_) ?_
          · show Steps p.tables e below (T3.setTop (mkF m 39 #[.val (.ref a), .val (.long q), .second] [])) t_
            refine XS.aloadN X3.here hx rfl (hb hby d1_39) rfl rfl ?_
            show Steps p.tables e below (T3.setTop (mkF m 40 #[.val (.ref a), .val (.long q), .second] [(.ref a)])) t_
            exact k_
          obtain ⟨T4, X4, e4, st4⟩ := getS2 X3 hx hZ hown (host := "") (Or.inl (hw _ (List.mem_of_getElem? (i := 10) rfl))) Via.refl e3 SM (g := (mkF m 40 #[.val (.ref a), .val (.long q), .second] [(.ref a)])) rfl (hb hby d1_40)
          refine Go.via st4 ?_
          show Go p.tables e below _ (T4.setTop (mkF m 43 #[.val (.ref a), .val (.long q), .second] [(.ref wM), (.ref a)]))
          by_cases hM2 : a = wM
          · refine Go.via (B := T4.setTop (mkF m 46 #[.val (.ref a), .val (.long q), .second] [])) (fun t_ k_ => Jvm.RoadKit.acmp (g := (mkF m 43 #[.val (.ref a), .val (.long q), .second] [(.ref wM), (.ref a)])) X4 hx rfl rfl rfl (pc0 := 43) (pc' := 46) (same := true) rfl (hb hby d1_43) rfl (decide_eq_true (congrArg Value.ref hM2)) (by decide) (by decide) k_) ?_
            refine Go.via (B := T4.setTop (mkF m 51 #[.val (.ref a), .val (.long q), .second] [(.int (1 : Int32))])) (fun t_ k_ => ?_) ?_
            · show Steps p.tables e below (T4.setTop (mkF m 46 #[.val (.ref a), .val (.long q), .second] [])) t_
              refine XS.iconst X4.here hx rfl (hb hby d1_46) ?_
              show Steps p.tables e below (T4.setTop (mkF m 47 #[.val (.ref a), .val (.long q), .second] [(.int (1 : Int32))])) t_
              refine XS.goto X4.here hx rfl (pc0 := 47) (pc' := 51) rfl (hb hby d1_47) (by decide) (by decide) ?_
              show Steps p.tables e below (T4.setTop (mkF m 51 #[.val (.ref a), .val (.long q), .second] [(.int (1 : Int32))])) t_
              exact k_
            have hAL : AL wO wA wM a q = (1 : Int32) := by rw [AL, if_neg h1, if_neg hz, if_pos hgt, if_neg hA2, if_pos hM2]
            exact Go.leave X4 hlk (v := (some (.int (1 : Int32)))) (fun h => by rw [hrt] at h; cases h) (fun fs hr => retN X4 hx (t := .boolean) hrt (by simp) (hb hby d1_51) hr) (by decide) (by decide) (⟨by rw [hAL], N0, e4⟩)
          · refine Go.via (B := T4.setTop (mkF m 50 #[.val (.ref a), .val (.long q), .second] [])) (fun t_ k_ => Jvm.RoadKit.acmp (g := (mkF m 43 #[.val (.ref a), .val (.long q), .second] [(.ref wM), (.ref a)])) X4 hx rfl rfl rfl (pc0 := 43) (pc' := 50) (same := false) rfl (hb hby d1_43) rfl (decide_eq_false fun u => hM2 (Value.ref.inj u)) (by decide) (by decide) k_) ?_
            refine Go.via (B := T4.setTop (mkF m 51 #[.val (.ref a), .val (.long q), .second] [(.int (0 : Int32))])) (fun t_ k_ => ?_) ?_
            · show Steps p.tables e below (T4.setTop (mkF m 50 #[.val (.ref a), .val (.long q), .second] [])) t_
              refine XS.iconst X4.here hx rfl (hb hby d1_50) ?_
              show Steps p.tables e below (T4.setTop (mkF m 51 #[.val (.ref a), .val (.long q), .second] [(.int (0 : Int32))])) t_
              exact k_
            have hAL : AL wO wA wM a q = (0 : Int32) := by rw [AL, if_neg h1, if_neg hz, if_pos hgt, if_neg hA2, if_neg hM2]
            exact Go.leave X4 hlk (v := (some (.int (0 : Int32)))) (fun h => by rw [hrt] at h; cases h) (fun fs hr => retN X4 hx (t := .boolean) hrt (by simp) (hb hby d1_51) hr) (by decide) (by decide) (⟨by rw [hAL], N0, e4⟩)
      · refine Go.via (B := s₁.setTop (mkF m 50 #[.val (.ref a), .val (.long q), .second] [])) (fun t_ k_ => XS.ifYes X0.here hx rfl (pc0 := 29) (pc' := 50) rfl (hb hby d1_29) rfl (((if0 _ _).trans (flt (fun u => hgt ((lw_gt _ _).mp u))).2.2.2)) (by decide) (by decide) k_) ?_
        refine Go.via (B := s₁.setTop (mkF m 51 #[.val (.ref a), .val (.long q), .second] [(.int (0 : Int32))])) (fun t_ k_ => ?_) ?_
        · show Steps p.tables e below (s₁.setTop (mkF m 50 #[.val (.ref a), .val (.long q), .second] [])) t_
          refine XS.iconst X0.here hx rfl (hb hby d1_50) ?_
          show Steps p.tables e below (s₁.setTop (mkF m 51 #[.val (.ref a), .val (.long q), .second] [(.int (0 : Int32))])) t_
          exact k_
        have hAL : AL wO wA wM a q = (0 : Int32) := by rw [AL, if_neg h1, if_neg hz, if_neg hgt]
        exact Go.leave X0 hlk (v := (some (.int (0 : Int32)))) (fun h => by rw [hrt] at h; cases h) (fun fs hr => retN X0 hx (t := .boolean) hrt (by simp) (hb hby d1_51) hr) (by decide) (by decide) (⟨by rw [hAL], N0, e0⟩)
theorem pn_0 : plainName "com/example/shelfmark/shelfmark/xquery/expr/OccurrenceAllowsPinLaw" = true := by first | (simp [plainName, overriddenIn]; done) | decide +kernel
theorem ef_0 (m : MethodId) (x0 : Int32) (x1 : Int32) (x2 : Int64) : entryFrame m #[(.int x0), (.int x1), (.long x2)] maxLocals = mkF m 0 #[.val (.int x0), .val (.int x1), .val (.long x2), .second, .unset, .unset, .unset, .unset, .unset, .unset, .unset, .unset, .unset] [] := by first | (simp [entryFrame, mkF, argsToLocals, Value.category, maxLocals]; done) | rfl
set_option maxRecDepth 65536 in
set_option maxHeartbeats 40000000 in
theorem own_tail {p : Program} {l : Launch} {e : Env} {s : State} {m : MethodId} {args : Array Value} {below : List Frame} {meth : Method} {c : Code} {T0 : State} {Z : State} {a0 : Array Value} {h0 : Heap} {n0 : Nat} (p0 p1 : Int32) (p2 : Int64) (w4 : Int32) (o : Addr) (lo hi : Int64) (wO wA wM : Addr)
    (X0 : Stand p l e room_1 s m args below meth c T0 [] 0 0) (hx : p.tables.exec = Jvm.exec) (hZ : Z.Warmed39 s.vm) (hw : ∀ d ∈ tables_1, d.before a0 Z = true) (hby : c.code = code) (hml : c.maxLocals = 13) (hown : s.vm.findClass "com/example/shelfmark/shelfmark/xquery/expr/OccurrenceAllowsPinLaw" = some m.cls) (hlk : meth.locks = false) (hrt : meth.sig.returnType = some .boolean) (e0 : T0.heap = h0) (Z0 : n0 ≤ h0.size) (N0 : Fr n0 []) (SO : Sta Z h0 "com/example/shelfmark/shelfmark/xquery/expr/SequenceType$Occurrence" "OPTIONAL" "Lcom/example/shelfmark/shelfmark/xquery/expr/SequenceType$Occurrence;" (.ref wO)) (SA : Sta Z h0 "com/example/shelfmark/shelfmark/xquery/expr/SequenceType$Occurrence" "ANY" "Lcom/example/shelfmark/shelfmark/xquery/expr/SequenceType$Occurrence;" (.ref wA)) (SM : Sta Z h0 "com/example/shelfmark/shelfmark/xquery/expr/SequenceType$Occurrence" "ONE_OR_MORE" "Lcom/example/shelfmark/shelfmark/xquery/expr/SequenceType$Occurrence;" (.ref wM)) (Eo : Exa Z h0 o "com/example/shelfmark/shelfmark/xquery/expr/SequenceType$Occurrence") (hF : Fits wO wA wM o lo hi) :
    Go p.tables e below (PQ s below (fun v h L => v = some (.int 1) ∧ Fr n0 L) 0 0) (T0.setTop (mkF m 79 #[.val (.int p0), .val (.int p1), .val (.long p2), .second, .val (.int w4), .val (.ref o), .val (.long lo), .second, .val (.long hi), .second, .unset, .unset, .unset] [])) := by
  have t97 : ∀ cc : Int64, Go p.tables e below (PQ s below (fun v h L => v = some (.int 1) ∧ Fr n0 L) 0 0) (T0.setTop (mkF m 97 #[.val (.int p0), .val (.int p1), .val (.long p2), .second, .val (.int w4), .val (.ref o), .val (.long lo), .second, .val (.long hi), .second, .unset, .unset, .unset] [(.long cc)])) := by
    intro cc
    refine Go.via (B := T0.setTop (mkF m 104 #[.val (.int p0), .val (.int p1), .val (.long p2), .second, .val (.int w4), .val (.ref o), .val (.long lo), .second, .val (.long hi), .second, .val (.long cc), .second, .unset] [(.int (lcmpW lo cc))])) (fun t_ k_ => ?_) ?_
    · show Steps p.tables e below (T0.setTop (mkF m 97 #[.val (.int p0), .val (.int p1), .val (.long p2), .second, .val (.int w4), .val (.ref o), .val (.long lo), .second, .val (.long hi), .second, .unset, .unset, .unset] [(.long cc)])) t_
      refine XS.lstore X0.here hx rfl (hb hby at_97) rfl (l' := #[.val (.int p0), .val (.int p1), .val (.long p2), .second, .val (.int w4), .val (.ref o), .val (.long lo), .second, .val (.long hi), .second, .val (.long cc), .second, .unset]) rfl ?_
      show Steps p.tables e below (T0.setTop (mkF m 99 #[.val (.int p0), .val (.int p1), .val (.long p2), .second, .val (.int w4), .val (.ref o), .val (.long lo), .second, .val (.long hi), .second, .val (.long cc), .second, .unset] [])) t_
      refine XS.lload X0.here hx rfl (hb hby at_99) rfl ?_
      show Steps p.tables e below (T0.setTop (mkF m 101 #[.val (.int p0), .val (.int p1), .val (.long p2), .second, .val (.int w4), .val (.ref o), .val (.long lo), .second, .val (.long hi), .second, .val (.long cc), .second, .unset] [(.long lo)])) t_
      refine XS.lload X0.here hx rfl (hb hby at_101) rfl ?_
      show Steps p.tables e below (T0.setTop (mkF m 103 #[.val (.int p0), .val (.int p1), .val (.long p2), .second, .val (.int w4), .val (.ref o), .val (.long lo), .second, .val (.long hi), .second, .val (.long cc), .second, .unset] [(.long cc), (.long lo)])) t_
      refine XS.lcmp X0.here hx rfl (hb hby at_103) rfl ?_
      show Steps p.tables e below (T0.setTop (mkF m 104 #[.val (.int p0), .val (.int p1), .val (.long p2), .second, .val (.int w4), .val (.ref o), .val (.long lo), .second, .val (.long hi), .second, .val (.long cc), .second, .unset] [(.int (lcmpW lo cc))])) t_
      exact k_
    by_cases hlo : cc < lo
    · refine Go.via (B := T0.setTop (mkF m 119 #[.val (.int p0), .val (.int p1), .val (.long p2), .second, .val (.int w4), .val (.ref o), .val (.long lo), .second, .val (.long hi), .second, .val (.long cc), .second, .unset] [])) (fun t_ k_ => XS.ifYes X0.here hx rfl (pc0 := 104) (pc' := 119) rfl (hb hby at_104) rfl (((if0 _ _).trans (tlt ((lw_gt _ _).mpr hlo)).2.2.1)) (by decide) (by decide) k_) ?_
      refine Go.via (B := T0.setTop (mkF m 126 #[.val (.int p0), .val (.int p1), .val (.long p2), .second, .val (.int w4), .val (.ref o), .val (.long lo), .second, .val (.long hi), .second, .val (.long cc), .second, .val (.int (0 : Int32))] [(.long cc), (.ref o)])) (fun t_ k_ => ?_) ?_
      · show Steps p.tables e below (T0.setTop (mkF m 119 #[.val (.int p0), .val (.int p1), .val (.long p2), .second, .val (.int w4), .val (.ref o), .val (.long lo), .second, .val (.long hi), .second, .val (.long cc), .second, .unset] [])) t_
        refine XS.iconst X0.here hx rfl (hb hby at_119) ?_
        show Steps p.tables e below (T0.setTop (mkF m 120 #[.val (.int p0), .val (.int p1), .val (.long p2), .second, .val (.int w4), .val (.ref o), .val (.long lo), .second, .val (.long hi), .second, .val (.long cc), .second, .unset] [(.int (0 : Int32))])) t_
        refine XS.istore X0.here hx rfl (hb hby at_120) rfl (l' := #[.val (.int p0), .val (.int p1), .val (.long p2), .second, .val (.int w4), .val (.ref o), .val (.long lo), .second, .val (.long hi), .second, .val (.long cc), .second, .val (.int (0 : Int32))]) rfl ?_
        show Steps p.tables e below (T0.setTop (mkF m 122 #[.val (.int p0), .val (.int p1), .val (.long p2), .second, .val (.int w4), .val (.ref o), .val (.long lo), .second, .val (.long hi), .second, .val (.long cc), .second, .val (.int (0 : Int32))] [])) t_
        refine XS.aload X0.here hx rfl (hb hby at_122) rfl rfl ?_
        show Steps p.tables e below (T0.setTop (mkF m 124 #[.val (.int p0), .val (.int p1), .val (.long p2), .second, .val (.int w4), .val (.ref o), .val (.long lo), .second, .val (.long hi), .second, .val (.long cc), .second, .val (.int (0 : Int32))] [(.ref o)])) t_
        refine XS.lload X0.here hx rfl (hb hby at_124) rfl ?_
        show Steps p.tables e below (T0.setTop (mkF m 126 #[.val (.int p0), .val (.int p1), .val (.long p2), .second, .val (.int w4), .val (.ref o), .val (.long lo), .second, .val (.long hi), .second, .val (.long cc), .second, .val (.int (0 : Int32))] [(.long cc), (.ref o)])) t_
        exact k_
      obtain ⟨cq5, kq5, q5a, q5b, q5c⟩ := isOf hZ e0 Eo
      obtain ⟨_, _, ⟨T5, L5, k5, n5⟩, -, X5, ⟨Lc5, hQ5, l5, y5, z5⟩, st5⟩ := X0.virtualBack hx (y := (⟨"com/example/shelfmark/shelfmark/xquery/expr/SequenceType$Occurrence", "allows", "(J)Z"⟩ : MethodName)) (z := (⟨"com/example/shelfmark/shelfmark/xquery/expr/SequenceType$Occurrence", "allows", "(J)Z"⟩ : MethodName)) hown (mvT hZ (hw _ (List.mem_of_getElem? (i := 3) rfl))) (mvT hZ (hw _ (List.mem_of_getElem? (i := 4) rfl))) (notFace_of_selects (args := #[]) (mvT hZ (hw _ (List.mem_of_getElem? (i := 6) rfl)))) (mvT hZ (hw _ (List.mem_of_getElem? (i := 6) rfl))) (mvT hZ (hw _ (List.mem_of_getElem? (i := 5) rfl))) (by decide) (backOf (W := 0) (rm1 l Z a0 hw [] o cc wO wA wM h0 n0 Z0 SO SA SM) hZ (hw _ (List.mem_of_getElem? (i := 7) rfl)) (hw _ (List.mem_of_getElem? (i := 1) rfl)) (by decide) (by decide)) q5a q5c (g := (mkF m 126 #[.val (.int p0), .val (.int p1), .val (.long p2), .second, .val (.int w4), .val (.ref o), .val (.long lo), .second, .val (.long hi), .second, .val (.long cc), .second, .val (.int (0 : Int32))] [(.long cc), (.ref o)])) rfl (by rw [hml]; rfl) (Steps.refl _) (argsL := [(.long cc)]) (rest := []) (lenOf pd0 rfl) rfl (by show 2 * 0 + _ ≤ _; exact Nat.le_of_eq rfl) (hb hby at_126) (fun _ _ => ⟨rfl, e0, (by decide : 0 + 0 ≤ _), (by decide : 0 + 0 ≤ _)⟩)
      dsimp only [Pt.U, Pt.locs, Pt.cells, Pt.slots] at X5 l5 y5 z5 st5 hQ5
      subst l5 y5 z5
      obtain ⟨rfl, N5q, e5⟩ := hQ5
      have N5 := Fr.app N0 N5q
      refine Go.via (fun t_ k_ => st5.trans k_) ?_
      show Go p.tables e below _ (T5.setTop (mkF m 129 #[.val (.int p0), .val (.int p1), .val (.long p2), .second, .val (.int w4), .val (.ref o), .val (.long lo), .second, .val (.long hi), .second, .val (.long cc), .second, .val (.int (0 : Int32))] [(.int (AL wO wA wM o cc))]))
      refine Go.via (B := T5.setTop (mkF m 131 #[.val (.int p0), .val (.int p1), .val (.long p2), .second, .val (.int w4), .val (.ref o), .val (.long lo), .second, .val (.long hi), .second, .val (.long cc), .second, .val (.int (0 : Int32))] [(.int (0 : Int32)), (.int (AL wO wA wM o cc))])) (fun t_ k_ => ?_) ?_
      · show Steps p.tables e below (T5.setTop (mkF m 129 #[.val (.int p0), .val (.int p1), .val (.long p2), .second, .val (.int w4), .val (.ref o), .val (.long lo), .second, .val (.long hi), .second, .val (.long cc), .second, .val (.int (0 : Int32))] [(.int (AL wO wA wM o cc))])) t_
        refine XS.iload X5.here hx rfl (hb hby at_129) rfl ?_
        show Steps p.tables e below (T5.setTop (mkF m 131 #[.val (.int p0), .val (.int p1), .val (.long p2), .second, .val (.int w4), .val (.ref o), .val (.long lo), .second, .val (.long hi), .second, .val (.long cc), .second, .val (.int (0 : Int32))] [(.int (0 : Int32)), (.int (AL wO wA wM o cc))])) t_
        exact k_
      refine Go.via (B := T5.setTop (mkF m 134 #[.val (.int p0), .val (.int p1), .val (.long p2), .second, .val (.int w4), .val (.ref o), .val (.long lo), .second, .val (.long hi), .second, .val (.long cc), .second, .val (.int (0 : Int32))] [])) (fun t_ k_ => XS.icmpNo X5.here hx rfl (hb hby at_131) rfl ((teq ((hF cc).1 hlo)).2) k_) ?_
      refine Go.via (B := T5.setTop (mkF m 139 #[.val (.int p0), .val (.int p1), .val (.long p2), .second, .val (.int w4), .val (.ref o), .val (.long lo), .second, .val (.long hi), .second, .val (.long cc), .second, .val (.int (0 : Int32))] [(.int (1 : Int32))])) (fun t_ k_ => ?_) ?_
      · show Steps p.tables e below (T5.setTop (mkF m 134 #[.val (.int p0), .val (.int p1), .val (.long p2), .second, .val (.int w4), .val (.ref o), .val (.long lo), .second, .val (.long hi), .second, .val (.long cc), .second, .val (.int (0 : Int32))] [])) t_
        refine XS.iconst X5.here hx rfl (hb hby at_134) ?_
        show Steps p.tables e below (T5.setTop (mkF m 135 #[.val (.int p0), .val (.int p1), .val (.long p2), .second, .val (.int w4), .val (.ref o), .val (.long lo), .second, .val (.long hi), .second, .val (.long cc), .second, .val (.int (0 : Int32))] [(.int (1 : Int32))])) t_
        refine XS.goto X5.here hx rfl (pc0 := 135) (pc' := 139) rfl (hb hby at_135) (by decide) (by decide) ?_
        show Steps p.tables e below (T5.setTop (mkF m 139 #[.val (.int p0), .val (.int p1), .val (.long p2), .second, .val (.int w4), .val (.ref o), .val (.long lo), .second, .val (.long hi), .second, .val (.long cc), .second, .val (.int (0 : Int32))] [(.int (1 : Int32))])) t_
        exact k_
      exact Go.leave X5 hlk (v := (some (.int (1 : Int32)))) (fun h => by rw [hrt] at h; cases h) (fun fs hr => retN X5 hx (t := .boolean) hrt (by simp) (hb hby at_139) hr) (by decide) (by decide) (⟨rfl, N5⟩)
    · refine Go.via (B := T0.setTop (mkF m 107 #[.val (.int p0), .val (.int p1), .val (.long p2), .second, .val (.int w4), .val (.ref o), .val (.long lo), .second, .val (.long hi), .second, .val (.long cc), .second, .unset] [])) (fun t_ k_ => XS.ifNo X0.here hx rfl (hb hby at_104) rfl (((if0 _ _).trans (flt (fun u => hlo ((lw_gt _ _).mp u))).2.2.1)) k_) ?_
      refine Go.via (B := T0.setTop (mkF m 112 #[.val (.int p0), .val (.int p1), .val (.long p2), .second, .val (.int w4), .val (.ref o), .val (.long lo), .second, .val (.long hi), .second, .val (.long cc), .second, .unset] [(.int (lcmpW cc hi))])) (fun t_ k_ => ?_) ?_
      · show Steps p.tables e below (T0.setTop (mkF m 107 #[.val (.int p0), .val (.int p1), .val (.long p2), .second, .val (.int w4), .val (.ref o), .val (.long lo), .second, .val (.long hi), .second, .val (.long cc), .second, .unset] [])) t_
        refine XS.lload X0.here hx rfl (hb hby at_107) rfl ?_
        show Steps p.tables e below (T0.setTop (mkF m 109 #[.val (.int p0), .val (.int p1), .val (.long p2), .second, .val (.int w4), .val (.ref o), .val (.long lo), .second, .val (.long hi), .second, .val (.long cc), .second, .unset] [(.long cc)])) t_
        refine XS.lload X0.here hx rfl (hb hby at_109) rfl ?_
        show Steps p.tables e below (T0.setTop (mkF m 111 #[.val (.int p0), .val (.int p1), .val (.long p2), .second, .val (.int w4), .val (.ref o), .val (.long lo), .second, .val (.long hi), .second, .val (.long cc), .second, .unset] [(.long hi), (.long cc)])) t_
        refine XS.lcmp X0.here hx rfl (hb hby at_111) rfl ?_
        show Steps p.tables e below (T0.setTop (mkF m 112 #[.val (.int p0), .val (.int p1), .val (.long p2), .second, .val (.int w4), .val (.ref o), .val (.long lo), .second, .val (.long hi), .second, .val (.long cc), .second, .unset] [(.int (lcmpW cc hi))])) t_
        exact k_
      by_cases hhi : hi < cc
      · refine Go.via (B := T0.setTop (mkF m 119 #[.val (.int p0), .val (.int p1), .val (.long p2), .second, .val (.int w4), .val (.ref o), .val (.long lo), .second, .val (.long hi), .second, .val (.long cc), .second, .unset] [])) (fun t_ k_ => XS.ifYes X0.here hx rfl (pc0 := 112) (pc' := 119) rfl (hb hby at_112) rfl (((if0 _ _).trans (tlt ((lw_gt _ _).mpr hhi)).2.2.1)) (by decide) (by decide) k_) ?_
        refine Go.via (B := T0.setTop (mkF m 126 #[.val (.int p0), .val (.int p1), .val (.long p2), .second, .val (.int w4), .val (.ref o), .val (.long lo), .second, .val (.long hi), .second, .val (.long cc), .second, .val (.int (0 : Int32))] [(.long cc), (.ref o)])) (fun t_ k_ => ?_) ?_
        · show Steps p.tables e below (T0.setTop (mkF m 119 #[.val (.int p0), .val (.int p1), .val (.long p2), .second, .val (.int w4), .val (.ref o), .val (.long lo), .second, .val (.long hi), .second, .val (.long cc), .second, .unset] [])) t_
          refine XS.iconst X0.here hx rfl (hb hby at_119) ?_
          show Steps p.tables e below (T0.setTop (mkF m 120 #[.val (.int p0), .val (.int p1), .val (.long p2), .second, .val (.int w4), .val (.ref o), .val (.long lo), .second, .val (.long hi), .second, .val (.long cc), .second, .unset] [(.int (0 : Int32))])) t_
          refine XS.istore X0.here hx rfl (hb hby at_120) rfl (l' := #[.val (.int p0), .val (.int p1), .val (.long p2), .second, .val (.int w4), .val (.ref o), .val (.long lo), .second, .val (.long hi), .second, .val (.long cc), .second, .val (.int (0 : Int32))]) rfl ?_
          show Steps p.tables e below (T0.setTop (mkF m 122 #[.val (.int p0), .val (.int p1), .val (.long p2), .second, .val (.int w4), .val (.ref o), .val (.long lo), .second, .val (.long hi), .second, .val (.long cc), .second, .val (.int (0 : Int32))] [])) t_
          refine XS.aload X0.here hx rfl (hb hby at_122) rfl rfl ?_
          show Steps p.tables e below (T0.setTop (mkF m 124 #[.val (.int p0), .val (.int p1), .val (.long p2), .second, .val (.int w4), .val (.ref o), .val (.long lo), .second, .val (.long hi), .second, .val (.long cc), .second, .val (.int (0 : Int32))] [(.ref o)])) t_
          refine XS.lload X0.here hx rfl (hb hby at_124) rfl ?_
          show Steps p.tables e below (T0.setTop (mkF m 126 #[.val (.int p0), .val (.int p1), .val (.long p2), .second, .val (.int w4), .val (.ref o), .val (.long lo), .second, .val (.long hi), .second, .val (.long cc), .second, .val (.int (0 : Int32))] [(.long cc), (.ref o)])) t_
          exact k_
        obtain ⟨cq6, kq6, q6a, q6b, q6c⟩ := isOf hZ e0 Eo
        obtain ⟨_, _, ⟨T6, L6, k6, n6⟩, -, X6, ⟨Lc6, hQ6, l6, y6, z6⟩, st6⟩ := X0.virtualBack hx (y := (⟨"com/example/shelfmark/shelfmark/xquery/expr/SequenceType$Occurrence", "allows", "(J)Z"⟩ : MethodName)) (z := (⟨"com/example/shelfmark/shelfmark/xquery/expr/SequenceType$Occurrence", "allows", "(J)Z"⟩ : MethodName)) hown (mvT hZ (hw _ (List.mem_of_getElem? (i := 3) rfl))) (mvT hZ (hw _ (List.mem_of_getElem? (i := 4) rfl))) (notFace_of_selects (args := #[]) (mvT hZ (hw _ (List.mem_of_getElem? (i := 6) rfl)))) (mvT hZ (hw _ (List.mem_of_getElem? (i := 6) rfl))) (mvT hZ (hw _ (List.mem_of_getElem? (i := 5) rfl))) (by decide) (backOf (W := 0) (rm1 l Z a0 hw [] o cc wO wA wM h0 n0 Z0 SO SA SM) hZ (hw _ (List.mem_of_getElem? (i := 7) rfl)) (hw _ (List.mem_of_getElem? (i := 1) rfl)) (by decide) (by decide)) q6a q6c (g := (mkF m 126 #[.val (.int p0), .val (.int p1), .val (.long p2), .second, .val (.int w4), .val (.ref o), .val (.long lo), .second, .val (.long hi), .second, .val (.long cc), .second, .val (.int (0 : Int32))] [(.long cc), (.ref o)])) rfl (by rw [hml]; rfl) (Steps.refl _) (argsL := [(.long cc)]) (rest := []) (lenOf pd0 rfl) rfl (by show 2 * 0 + _ ≤ _; exact Nat.le_of_eq rfl) (hb hby at_126) (fun _ _ => ⟨rfl, e0, (by decide : 0 + 0 ≤ _), (by decide : 0 + 0 ≤ _)⟩)
        dsimp only [Pt.U, Pt.locs, Pt.cells, Pt.slots] at X6 l6 y6 z6 st6 hQ6
        subst l6 y6 z6
        obtain ⟨rfl, N6q, e6⟩ := hQ6
        have N6 := Fr.app N0 N6q
        refine Go.via (fun t_ k_ => st6.trans k_) ?_
        show Go p.tables e below _ (T6.setTop (mkF m 129 #[.val (.int p0), .val (.int p1), .val (.long p2), .second, .val (.int w4), .val (.ref o), .val (.long lo), .second, .val (.long hi), .second, .val (.long cc), .second, .val (.int (0 : Int32))] [(.int (AL wO wA wM o cc))]))
        refine Go.via (B := T6.setTop (mkF m 131 #[.val (.int p0), .val (.int p1), .val (.long p2), .second, .val (.int w4), .val (.ref o), .val (.long lo), .second, .val (.long hi), .second, .val (.long cc), .second, .val (.int (0 : Int32))] [(.int (0 : Int32)), (.int (AL wO wA wM o cc))])) (fun t_ k_ => ?_) ?_
        · show Steps p.tables e below (T6.setTop (mkF m 129 #[.val (.int p0), .val (.int p1), .val (.long p2), .second, .val (.int w4), .val (.ref o), .val (.long lo), .second, .val (.long hi), .second, .val (.long cc), .second, .val (.int (0 : Int32))] [(.int (AL wO wA wM o cc))])) t_
          refine XS.iload X6.here hx rfl (hb hby at_129) rfl ?_
          show Steps p.tables e below (T6.setTop (mkF m 131 #[.val (.int p0), .val (.int p1), .val (.long p2), .second, .val (.int w4), .val (.ref o), .val (.long lo), .second, .val (.long hi), .second, .val (.long cc), .second, .val (.int (0 : Int32))] [(.int (0 : Int32)), (.int (AL wO wA wM o cc))])) t_
          exact k_
        refine Go.via (B := T6.setTop (mkF m 134 #[.val (.int p0), .val (.int p1), .val (.long p2), .second, .val (.int w4), .val (.ref o), .val (.long lo), .second, .val (.long hi), .second, .val (.long cc), .second, .val (.int (0 : Int32))] [])) (fun t_ k_ => XS.icmpNo X6.here hx rfl (hb hby at_131) rfl ((teq ((hF cc).2.1 hlo hhi)).2) k_) ?_
        refine Go.via (B := T6.setTop (mkF m 139 #[.val (.int p0), .val (.int p1), .val (.long p2), .second, .val (.int w4), .val (.ref o), .val (.long lo), .second, .val (.long hi), .second, .val (.long cc), .second, .val (.int (0 : Int32))] [(.int (1 : Int32))])) (fun t_ k_ => ?_) ?_
        · show Steps p.tables e below (T6.setTop (mkF m 134 #[.val (.int p0), .val (.int p1), .val (.long p2), .second, .val (.int w4), .val (.ref o), .val (.long lo), .second, .val (.long hi), .second, .val (.long cc), .second, .val (.int (0 : Int32))] [])) t_
          refine XS.iconst X6.here hx rfl (hb hby at_134) ?_
          show Steps p.tables e below (T6.setTop (mkF m 135 #[.val (.int p0), .val (.int p1), .val (.long p2), .second, .val (.int w4), .val (.ref o), .val (.long lo), .second, .val (.long hi), .second, .val (.long cc), .second, .val (.int (0 : Int32))] [(.int (1 : Int32))])) t_
          refine XS.goto X6.here hx rfl (pc0 := 135) (pc' := 139) rfl (hb hby at_135) (by decide) (by decide) ?_
          show Steps p.tables e below (T6.setTop (mkF m 139 #[.val (.int p0), .val (.int p1), .val (.long p2), .second, .val (.int w4), .val (.ref o), .val (.long lo), .second, .val (.long hi), .second, .val (.long cc), .second, .val (.int (0 : Int32))] [(.int (1 : Int32))])) t_
          exact k_
        exact Go.leave X6 hlk (v := (some (.int (1 : Int32)))) (fun h => by rw [hrt] at h; cases h) (fun fs hr => retN X6 hx (t := .boolean) hrt (by simp) (hb hby at_139) hr) (by decide) (by decide) (⟨rfl, N6⟩)
      · refine Go.via (B := T0.setTop (mkF m 115 #[.val (.int p0), .val (.int p1), .val (.long p2), .second, .val (.int w4), .val (.ref o), .val (.long lo), .second, .val (.long hi), .second, .val (.long cc), .second, .unset] [])) (fun t_ k_ => XS.ifNo X0.here hx rfl (hb hby at_112) rfl (((if0 _ _).trans (flt (fun u => hhi ((lw_gt _ _).mp u))).2.2.1)) k_) ?_
        refine Go.via (B := T0.setTop (mkF m 126 #[.val (.int p0), .val (.int p1), .val (.long p2), .second, .val (.int w4), .val (.ref o), .val (.long lo), .second, .val (.long hi), .second, .val (.long cc), .second, .val (.int (1 : Int32))] [(.long cc), (.ref o)])) (fun t_ k_ => ?_) ?_
        · show Steps p.tables e below (T0.setTop (mkF m 115 #[.val (.int p0), .val (.int p1), .val (.long p2), .second, .val (.int w4), .val (.ref o), .val (.long lo), .second, .val (.long hi), .second, .val (.long cc), .second, .unset] [])) t_
          refine XS.iconst X0.here hx rfl (hb hby at_115) ?_
          show Steps p.tables e below (T0.setTop (mkF m 116 #[.val (.int p0), .val (.int p1), .val (.long p2), .second, .val (.int w4), .val (.ref o), .val (.long lo), .second, .val (.long hi), .second, .val (.long cc), .second, .unset] [(.int (1 : Int32))])) t_
          refine XS.goto X0.here hx rfl (pc0 := 116) (pc' := 120) rfl (hb hby at_116) (by decide) (by decide) ?_
          show Steps p.tables e below (T0.setTop (mkF m 120 #[.val (.int p0), .val (.int p1), .val (.long p2), .second, .val (.int w4), .val (.ref o), .val (.long lo), .second, .val (.long hi), .second, .val (.long cc), .second, .unset] [(.int (1 : Int32))])) t_
          refine XS.istore X0.here hx rfl (hb hby at_120) rfl (l' := #[.val (.int p0), .val (.int p1), .val (.long p2), .second, .val (.int w4), .val (.ref o), .val (.long lo), .second, .val (.long hi), .second, .val (.long cc), .second, .val (.int (1 : Int32))]) rfl ?_
          show Steps p.tables e below (T0.setTop (mkF m 122 #[.val (.int p0), .val (.int p1), .val (.long p2), .second, .val (.int w4), .val (.ref o), .val (.long lo), .second, .val (.long hi), .second, .val (.long cc), .second, .val (.int (1 : Int32))] [])) t_
          refine XS.aload X0.here hx rfl (hb hby at_122) rfl rfl ?_
          show Steps p.tables e below (T0.setTop (mkF m 124 #[.val (.int p0), .val (.int p1), .val (.long p2), .second, .val (.int w4), .val (.ref o), .val (.long lo), .second, .val (.long hi), .second, .val (.long cc), .second, .val (.int (1 : Int32))] [(.ref o)])) t_
          refine XS.lload X0.here hx rfl (hb hby at_124) rfl ?_
          show Steps p.tables e below (T0.setTop (mkF m 126 #[.val (.int p0), .val (.int p1), .val (.long p2), .second, .val (.int w4), .val (.ref o), .val (.long lo), .second, .val (.long hi), .second, .val (.long cc), .second, .val (.int (1 : Int32))] [(.long cc), (.ref o)])) t_
          exact k_
        obtain ⟨cq7, kq7, q7a, q7b, q7c⟩ := isOf hZ e0 Eo
        obtain ⟨_, _, ⟨T7, L7, k7, n7⟩, -, X7, ⟨Lc7, hQ7, l7, y7, z7⟩, st7⟩ := X0.virtualBack hx (y := (⟨"com/example/shelfmark/shelfmark/xquery/expr/SequenceType$Occurrence", "allows", "(J)Z"⟩ : MethodName)) (z := (⟨"com/example/shelfmark/shelfmark/xquery/expr/SequenceType$Occurrence", "allows", "(J)Z"⟩ : MethodName)) hown (mvT hZ (hw _ (List.mem_of_getElem? (i := 3) rfl))) (mvT hZ (hw _ (List.mem_of_getElem? (i := 4) rfl))) (notFace_of_selects (args := #[]) (mvT hZ (hw _ (List.mem_of_getElem? (i := 6) rfl)))) (mvT hZ (hw _ (List.mem_of_getElem? (i := 6) rfl))) (mvT hZ (hw _ (List.mem_of_getElem? (i := 5) rfl))) (by decide) (backOf (W := 0) (rm1 l Z a0 hw [] o cc wO wA wM h0 n0 Z0 SO SA SM) hZ (hw _ (List.mem_of_getElem? (i := 7) rfl)) (hw _ (List.mem_of_getElem? (i := 1) rfl)) (by decide) (by decide)) q7a q7c (g := (mkF m 126 #[.val (.int p0), .val (.int p1), .val (.long p2), .second, .val (.int w4), .val (.ref o), .val (.long lo), .second, .val (.long hi), .second, .val (.long cc), .second, .val (.int (1 : Int32))] [(.long cc), (.ref o)])) rfl (by rw [hml]; rfl) (Steps.refl _) (argsL := [(.long cc)]) (rest := []) (lenOf pd0 rfl) rfl (by show 2 * 0 + _ ≤ _; exact Nat.le_of_eq rfl) (hb hby at_126) (fun _ _ => ⟨rfl, e0, (by decide : 0 + 0 ≤ _), (by decide : 0 + 0 ≤ _)⟩)
        dsimp only [Pt.U, Pt.locs, Pt.cells, Pt.slots] at X7 l7 y7 z7 st7 hQ7
        subst l7 y7 z7
        obtain ⟨rfl, N7q, e7⟩ := hQ7
        have N7 := Fr.app N0 N7q
        refine Go.via (fun t_ k_ => st7.trans k_) ?_
        show Go p.tables e below _ (T7.setTop (mkF m 129 #[.val (.int p0), .val (.int p1), .val (.long p2), .second, .val (.int w4), .val (.ref o), .val (.long lo), .second, .val (.long hi), .second, .val (.long cc), .second, .val (.int (1 : Int32))] [(.int (AL wO wA wM o cc))]))
        refine Go.via (B := T7.setTop (mkF m 131 #[.val (.int p0), .val (.int p1), .val (.long p2), .second, .val (.int w4), .val (.ref o), .val (.long lo), .second, .val (.long hi), .second, .val (.long cc), .second, .val (.int (1 : Int32))] [(.int (1 : Int32)), (.int (AL wO wA wM o cc))])) (fun t_ k_ => ?_) ?_
        · show Steps p.tables e below (T7.setTop (mkF m 129 #[.val (.int p0), .val (.int p1), .val (.long p2), .second, .val (.int w4), .val (.ref o), .val (.long lo), .second, .val (.long hi), .second, .val (.long cc), .second, .val (.int (1 : Int32))] [(.int (AL wO wA wM o cc))])) t_
          refine XS.iload X7.here hx rfl (hb hby at_129) rfl ?_
          show Steps p.tables e below (T7.setTop (mkF m 131 #[.val (.int p0), .val (.int p1), .val (.long p2), .second, .val (.int w4), .val (.ref o), .val (.long lo), .second, .val (.long hi), .second, .val (.long cc), .second, .val (.int (1 : Int32))] [(.int (1 : Int32)), (.int (AL wO wA wM o cc))])) t_
          exact k_
        refine Go.via (B := T7.setTop (mkF m 134 #[.val (.int p0), .val (.int p1), .val (.long p2), .second, .val (.int w4), .val (.ref o), .val (.long lo), .second, .val (.long hi), .second, .val (.long cc), .second, .val (.int (1 : Int32))] [])) (fun t_ k_ => XS.icmpNo X7.here hx rfl (hb hby at_131) rfl ((teq ((hF cc).2.2 hlo hhi)).2) k_) ?_
        refine Go.via (B := T7.setTop (mkF m 139 #[.val (.int p0), .val (.int p1), .val (.long p2), .second, .val (.int w4), .val (.ref o), .val (.long lo), .second, .val (.long hi), .second, .val (.long cc), .second, .val (.int (1 : Int32))] [(.int (1 : Int32))])) (fun t_ k_ => ?_) ?_
        · show Steps p.tables e below (T7.setTop (mkF m 134 #[.val (.int p0), .val (.int p1), .val (.long p2), .second, .val (.int w4), .val (.ref o), .val (.long lo), .second, .val (.long hi), .second, .val (.long cc), .second, .val (.int (1 : Int32))] [])) t_
          refine XS.iconst X7.here hx rfl (hb hby at_134) ?_
          show Steps p.tables e below (T7.setTop (mkF m 135 #[.val (.int p0), .val (.int p1), .val (.long p2), .second, .val (.int w4), .val (.ref o), .val (.long lo), .second, .val (.long hi), .second, .val (.long cc), .second, .val (.int (1 : Int32))] [(.int (1 : Int32))])) t_
          refine XS.goto X7.here hx rfl (pc0 := 135) (pc' := 139) rfl (hb hby at_135) (by decide) (by decide) ?_
          show Steps p.tables e below (T7.setTop (mkF m 139 #[.val (.int p0), .val (.int p1), .val (.long p2), .second, .val (.int w4), .val (.ref o), .val (.long lo), .second, .val (.long hi), .second, .val (.long cc), .second, .val (.int (1 : Int32))] [(.int (1 : Int32))])) t_
          exact k_
        exact Go.leave X7 hlk (v := (some (.int (1 : Int32)))) (fun h => by rw [hrt] at h; cases h) (fun fs hr => retN X7 hx (t := .boolean) hrt (by simp) (hb hby at_139) hr) (by decide) (by decide) (⟨rfl, N7⟩)
  refine Go.via (B := T0.setTop (mkF m 82 #[.val (.int p0), .val (.int p1), .val (.long p2), .second, .val (.int w4), .val (.ref o), .val (.long lo), .second, .val (.long hi), .second, .unset, .unset, .unset] [(.int (p1 &&& (4 : Int32)))])) (fun t_ k_ => ?_) ?_
  · show Steps p.tables e below (T0.setTop (mkF m 79 #[.val (.int p0), .val (.int p1), .val (.long p2), .second, .val (.int w4), .val (.ref o), .val (.long lo), .second, .val (.long hi), .second, .unset, .unset, .unset] [])) t_
    refine XS.iloadN X0.here hx rfl (hb hby at_79) rfl ?_
    show Steps p.tables e below (T0.setTop (mkF m 80 #[.val (.int p0), .val (.int p1), .val (.long p2), .second, .val (.int w4), .val (.ref o), .val (.long lo), .second, .val (.long hi), .second, .unset, .unset, .unset] [(.int p1)])) t_
    refine XS.iconst X0.here hx rfl (hb hby at_80) ?_
    show Steps p.tables e below (T0.setTop (mkF m 81 #[.val (.int p0), .val (.int p1), .val (.long p2), .second, .val (.int w4), .val (.ref o), .val (.long lo), .second, .val (.long hi), .second, .unset, .unset, .unset] [(.int (4 : Int32)), (.int p1)])) t_
    refine XS.iand X0.here hx rfl (hb hby at_81) rfl ?_
    show Steps p.tables e below (T0.setTop (mkF m 82 #[.val (.int p0), .val (.int p1), .val (.long p2), .second, .val (.int w4), .val (.ref o), .val (.long lo), .second, .val (.long hi), .second, .unset, .unset, .unset] [(.int (p1 &&& (4 : Int32)))])) t_
    exact k_
  by_cases hm : (p1 &&& (4 : Int32)) = (0 : Int32)
  · refine Go.via (B := T0.setTop (mkF m 96 #[.val (.int p0), .val (.int p1), .val (.long p2), .second, .val (.int w4), .val (.ref o), .val (.long lo), .second, .val (.long hi), .second, .unset, .unset, .unset] [])) (fun t_ k_ => XS.ifYes X0.here hx rfl (pc0 := 82) (pc' := 96) rfl (hb hby at_82) rfl (((if0 _ _).trans (teq hm).1)) (by decide) (by decide) k_) ?_
    refine Go.via (B := T0.setTop (mkF m 97 #[.val (.int p0), .val (.int p1), .val (.long p2), .second, .val (.int w4), .val (.ref o), .val (.long lo), .second, .val (.long hi), .second, .unset, .unset, .unset] [(.long p2)])) (fun t_ k_ => ?_) ?_
    · show Steps p.tables e below (T0.setTop (mkF m 96 #[.val (.int p0), .val (.int p1), .val (.long p2), .second, .val (.int w4), .val (.ref o), .val (.long lo), .second, .val (.long hi), .second, .unset, .unset, .unset] [])) t_
      refine XS.lloadN X0.here hx rfl (hb hby at_96) rfl ?_
      show Steps p.tables e below (T0.setTop (mkF m 97 #[.val (.int p0), .val (.int p1), .val (.long p2), .second, .val (.int w4), .val (.ref o), .val (.long lo), .second, .val (.long hi), .second, .unset, .unset, .unset] [(.long p2)])) t_
      exact k_
    exact t97 _
  · refine Go.via (B := T0.setTop (mkF m 85 #[.val (.int p0), .val (.int p1), .val (.long p2), .second, .val (.int w4), .val (.ref o), .val (.long lo), .second, .val (.long hi), .second, .unset, .unset, .unset] [])) (fun t_ k_ => XS.ifNo X0.here hx rfl (hb hby at_82) rfl (((if0 _ _).trans (feq hm).1)) k_) ?_
    refine Go.via (B := T0.setTop (mkF m 97 #[.val (.int p0), .val (.int p1), .val (.long p2), .second, .val (.int w4), .val (.ref o), .val (.long lo), .second, .val (.long hi), .second, .unset, .unset, .unset] [(.long ((((p1 >>> ((3 : Int32) &&& 31)) &&& (3 : Int32)).toInt64) - (1 : Int64)))])) (fun t_ k_ => ?_) ?_
    · show Steps p.tables e below (T0.setTop (mkF m 85 #[.val (.int p0), .val (.int p1), .val (.long p2), .second, .val (.int w4), .val (.ref o), .val (.long lo), .second, .val (.long hi), .second, .unset, .unset, .unset] [])) t_
      refine XS.iloadN X0.here hx rfl (hb hby at_85) rfl ?_
      show Steps p.tables e below (T0.setTop (mkF m 86 #[.val (.int p0), .val (.int p1), .val (.long p2), .second, .val (.int w4), .val (.ref o), .val (.long lo), .second, .val (.long hi), .second, .unset, .unset, .unset] [(.int p1)])) t_
      refine XS.iconst X0.here hx rfl (hb hby at_86) ?_
      show Steps p.tables e below (T0.setTop (mkF m 87 #[.val (.int p0), .val (.int p1), .val (.long p2), .second, .val (.int w4), .val (.ref o), .val (.long lo), .second, .val (.long hi), .second, .unset, .unset, .unset] [(.int (3 : Int32)), (.int p1)])) t_
      refine XS.ishr X0.here hx rfl (hb hby at_87) rfl ?_
      show Steps p.tables e below (T0.setTop (mkF m 88 #[.val (.int p0), .val (.int p1), .val (.long p2), .second, .val (.int w4), .val (.ref o), .val (.long lo), .second, .val (.long hi), .second, .unset, .unset, .unset] [(.int (p1 >>> ((3 : Int32) &&& 31)))])) t_
      refine XS.iconst X0.here hx rfl (hb hby at_88) ?_
      show Steps p.tables e below (T0.setTop (mkF m 89 #[.val (.int p0), .val (.int p1), .val (.long p2), .second, .val (.int w4), .val (.ref o), .val (.long lo), .second, .val (.long hi), .second, .unset, .unset, .unset] [(.int (3 : Int32)), (.int (p1 >>> ((3 : Int32) &&& 31)))])) t_
      refine XS.iand X0.here hx rfl (hb hby at_89) rfl ?_
      show Steps p.tables e below (T0.setTop (mkF m 90 #[.val (.int p0), .val (.int p1), .val (.long p2), .second, .val (.int w4), .val (.ref o), .val (.long lo), .second, .val (.long hi), .second, .unset, .unset, .unset] [(.int ((p1 >>> ((3 : Int32) &&& 31)) &&& (3 : Int32)))])) t_
      refine XS.i2l X0.here hx rfl (hb hby at_90) rfl ?_
      show Steps p.tables e below (T0.setTop (mkF m 91 #[.val (.int p0), .val (.int p1), .val (.long p2), .second, .val (.int w4), .val (.ref o), .val (.long lo), .second, .val (.long hi), .second, .unset, .unset, .unset] [(.long (((p1 >>> ((3 : Int32) &&& 31)) &&& (3 : Int32)).toInt64))])) t_
      refine XS.lconst X0.here hx rfl (hb hby at_91) ?_
      show Steps p.tables e below (T0.setTop (mkF m 92 #[.val (.int p0), .val (.int p1), .val (.long p2), .second, .val (.int w4), .val (.ref o), .val (.long lo), .second, .val (.long hi), .second, .unset, .unset, .unset] [(.long (1 : Int64)), (.long (((p1 >>> ((3 : Int32) &&& 31)) &&& (3 : Int32)).toInt64))])) t_
      refine XS.lsub X0.here hx rfl (hb hby at_92) rfl ?_
      show Steps p.tables e below (T0.setTop (mkF m 93 #[.val (.int p0), .val (.int p1), .val (.long p2), .second, .val (.int w4), .val (.ref o), .val (.long lo), .second, .val (.long hi), .second, .unset, .unset, .unset] [(.long ((((p1 >>> ((3 : Int32) &&& 31)) &&& (3 : Int32)).toInt64) - (1 : Int64)))])) t_
      refine XS.goto X0.here hx rfl (pc0 := 93) (pc' := 97) rfl (hb hby at_93) (by decide) (by decide) ?_
      show Steps p.tables e below (T0.setTop (mkF m 97 #[.val (.int p0), .val (.int p1), .val (.long p2), .second, .val (.int w4), .val (.ref o), .val (.long lo), .second, .val (.long hi), .second, .unset, .unset, .unset] [(.long ((((p1 >>> ((3 : Int32) &&& 31)) &&& (3 : Int32)).toInt64) - (1 : Int64)))])) t_
      exact k_
    exact t97 _
def Q0 (Z : State) (p0 : Int32) (p1 : Int32) (p2 : Int64) (w1 : Addr) (wO : Addr) (wA : Addr) (wM : Addr) (h0 : Heap) (n0 : Nat) (v : Option Value) (h : Heap) (L : List Loc) : Prop := v = some (.int 1) ∧ Fr n0 L
set_option maxRecDepth 65536 in
set_option maxHeartbeats 40000000 in
theorem rm0 (l : Launch) (Z : State) (a0 : Array Value) (hw : ∀ d ∈ tables_1, d.before a0 Z = true) (ws : List Jvm.Cond) (p0 : Int32) (p1 : Int32) (p2 : Int64) (w1 : Addr) (wO : Addr) (wA : Addr) (wM : Addr) (h0 : Heap) (n0 : Nat) (Z0 : n0 ≤ h0.size) (S1 : Sta Z h0 "com/example/shelfmark/shelfmark/xquery/expr/SequenceType$Occurrence" "ONE" "Lcom/example/shelfmark/shelfmark/xquery/expr/SequenceType$Occurrence;" (.ref w1)) (SO : Sta Z h0 "com/example/shelfmark/shelfmark/xquery/expr/SequenceType$Occurrence" "OPTIONAL" "Lcom/example/shelfmark/shelfmark/xquery/expr/SequenceType$Occurrence;" (.ref wO)) (SA : Sta Z h0 "com/example/shelfmark/shelfmark/xquery/expr/SequenceType$Occurrence" "ANY" "Lcom/example/shelfmark/shelfmark/xquery/expr/SequenceType$Occurrence;" (.ref wA)) (SM : Sta Z h0 "com/example/shelfmark/shelfmark/xquery/expr/SequenceType$Occurrence" "ONE_OR_MORE" "Lcom/example/shelfmark/shelfmark/xquery/expr/SequenceType$Occurrence;" (.ref wM)) (E1 : Exa Z h0 w1 "com/example/shelfmark/shelfmark/xquery/expr/SequenceType$Occurrence") (EO : Exa Z h0 wO "com/example/shelfmark/shelfmark/xquery/expr/SequenceType$Occurrence") (EA : Exa Z h0 wA "com/example/shelfmark/shelfmark/xquery/expr/SequenceType$Occurrence") (EM : Exa Z h0 wM "com/example/shelfmark/shelfmark/xquery/expr/SequenceType$Occurrence") (F1 : Fits wO wA wM w1 1 1) (FO : Fits wO wA wM wO 0 1) (FA : Fits wO wA wM wA 0 9223372036854775807) (FM : Fits wO wA wM wM 1 9223372036854775807) :
    MetFree l x (head1 (Jvm.Cond.code x code maxLocals ret :: ws) room_1) (fun a_ U_ => a_ = #[(.int p0), (.int p1), (.long p2)] ∧ Z.Warmed39 U_.vm ∧ U_.heap = h0) (fun _ _ _ _ _ => True) (fun _ U_ o_ V_ => ∃ v_ L_, o_ = .returned v_ ∧ Q0 Z p0 p1 p2 w1 wO wA wM h0 n0 v_ V_.heap L_ ∧ FrameEnd U_ o_ V_ L_ 0 0) := by
  refine MetFree.of_bodySF (plainFor_of_name pn_0) hisR ?_
  intro p e s m args below meth c s₁ Bd hml0 hP hK
  obtain ⟨rfl, hZ, hh⟩ := hP
  have hx := Bd.exec
  have hby := Bd.bytes
  have hml : c.maxLocals = 13 := hml0
  have hown : s.vm.findClass "com/example/shelfmark/shelfmark/xquery/expr/OccurrenceAllowsPinLaw" = some m.cls := findClass_of_methodNamed Bd.named
  have hnm := (name_of_methodNamed Bd.named Bd.method).1
  have hlk : meth.locks = false := BodyLoose.notSynchronized Bd
  have hrt := Bd.returns
  have X0 : Stand p l e room_1 s m #[(.int p0), (.int p1), (.long p2)] below meth c s₁ [] 0 0 := Stand.of_body Bd
  have e0 : s₁.heap = h0 := by rw [← hh, Bd.state]; rfl
  have N0 := Fr.nil n0
  show Go p.tables e below (PQ s below (Q0 Z p0 p1 p2 w1 wO wA wM h0 n0) 0 0) _
  refine Go.via (B := s₁.setTop (mkF m 0 #[.val (.int p0), .val (.int p1), .val (.long p2), .second, .unset, .unset, .unset, .unset, .unset, .unset, .unset, .unset, .unset] [])) (fun t_ k_ => castTop (ef_0 m p0 p1 p2) k_) ?_
  refine Go.via (B := s₁.setTop (mkF m 7 #[.val (.int p0), .val (.int p1), .val (.long p2), .second, .val (.int (p0 &&& (3 : Int32))), .unset, .unset, .unset, .unset, .unset, .unset, .unset, .unset] [(.int (p0 &&& (3 : Int32)))])) (fun t_ k_ => ?_) ?_
  · show Steps p.tables e below (s₁.setTop (mkF m 0 #[.val (.int p0), .val (.int p1), .val (.long p2), .second, .unset, .unset, .unset, .unset, .unset, .unset, .unset, .unset, .unset] [])) t_
    refine XS.iloadN X0.here hx rfl (hb hby at_0) rfl ?_
    show Steps p.tables e below (s₁.setTop (mkF m 1 #[.val (.int p0), .val (.int p1), .val (.long p2), .second, .unset, .unset, .unset, .unset, .unset, .unset, .unset, .unset, .unset] [(.int p0)])) t_
    refine XS.iconst X0.here hx rfl (hb hby at_1) ?_
    show Steps p.tables e below (s₁.setTop (mkF m 2 #[.val (.int p0), .val (.int p1), .val (.long p2), .second, .unset, .unset, .unset, .unset, .unset, .unset, .unset, .unset, .unset] [(.int (3 : Int32)), (.int p0)])) t_
    refine XS.iand X0.here hx rfl (hb hby at_2) rfl ?_
    show Steps p.tables e below (s₁.setTop (mkF m 3 #[.val (.int p0), .val (.int p1), .val (.long p2), .second, .unset, .unset, .unset, .unset, .unset, .unset, .unset, .unset, .unset] [(.int (p0 &&& (3 : Int32)))])) t_
    refine XS.istore X0.here hx rfl (hb hby at_3) rfl (l' := #[.val (.int p0), .val (.int p1), .val (.long p2), .second, .val (.int (p0 &&& (3 : Int32))), .unset, .unset, .unset, .unset, .unset, .unset, .unset, .unset]) rfl ?_
    show Steps p.tables e below (s₁.setTop (mkF m 5 #[.val (.int p0), .val (.int p1), .val (.long p2), .second, .val (.int (p0 &&& (3 : Int32))), .unset, .unset, .unset, .unset, .unset, .unset, .unset, .unset] [])) t_
    refine XS.iload X0.here hx rfl (hb hby at_5) rfl ?_
    show Steps p.tables e below (s₁.setTop (mkF m 7 #[.val (.int p0), .val (.int p1), .val (.long p2), .second, .val (.int (p0 &&& (3 : Int32))), .unset, .unset, .unset, .unset, .unset, .unset, .unset, .unset] [(.int (p0 &&& (3 : Int32)))])) t_
    exact k_
  by_cases hw0 : (p0 &&& (3 : Int32)) = (0 : Int32)
  · refine Go.via (B := s₁.setTop (mkF m 10 #[.val (.int p0), .val (.int p1), .val (.long p2), .second, .val (.int (p0 &&& (3 : Int32))), .unset, .unset, .unset, .unset, .unset, .unset, .unset, .unset] [])) (fun t_ k_ => XS.ifNo X0.here hx rfl (hb hby at_7) rfl (((if0 _ _).trans (teq hw0).2)) k_) ?_
    obtain ⟨T8, X8, e8, st8⟩ := getS2 X0 hx hZ hown (host := "") (Or.inl (hw _ (List.mem_of_getElem? (i := 0) rfl))) Via.refl e0 S1 (g := (mkF m 10 #[.val (.int p0), .val (.int p1), .val (.long p2), .second, .val (.int (p0 &&& (3 : Int32))), .unset, .unset, .unset, .unset, .unset, .unset, .unset, .unset] [])) rfl (hb hby at_10)
    refine Go.via st8 ?_
    show Go p.tables e below _ (T8.setTop (mkF m 13 #[.val (.int p0), .val (.int p1), .val (.long p2), .second, .val (.int (p0 &&& (3 : Int32))), .unset, .unset, .unset, .unset, .unset, .unset, .unset, .unset] [(.ref w1)]))
    refine Go.via (B := T8.setTop (mkF m 79 #[.val (.int p0), .val (.int p1), .val (.long p2), .second, .val (.int (p0 &&& (3 : Int32))), .val (.ref w1), .val (.long (1 : Int64)), .second, .val (.long (1 : Int64)), .second, .unset, .unset, .unset] [])) (fun t_ k_ => ?_) ?_
    · show Steps p.tables e below (T8.setTop (mkF m 13 #[.val (.int p0), .val (.int p1), .val (.long p2), .second, .val (.int (p0 &&& (3 : Int32))), .unset, .unset, .unset, .unset, .unset, .unset, .unset, .unset] [(.ref w1)])) t_
      refine XS.astore X8.here hx rfl (hb hby at_13) rfl rfl (l' := #[.val (.int p0), .val (.int p1), .val (.long p2), .second, .val (.int (p0 &&& (3 : Int32))), .val (.ref w1), .unset, .unset, .unset, .unset, .unset, .unset, .unset]) rfl ?_
      show Steps p.tables e below (T8.setTop (mkF m 15 #[.val (.int p0), .val (.int p1), .val (.long p2), .second, .val (.int (p0 &&& (3 : Int32))), .val (.ref w1), .unset, .unset, .unset, .unset, .unset, .unset, .unset] [])) t_
      refine XS.lconst X8.here hx rfl (hb hby at_15) ?_
      show Steps p.tables e below (T8.setTop (mkF m 16 #[.val (.int p0), .val (.int p1), .val (.long p2), .second, .val (.int (p0 &&& (3 : Int32))), .val (.ref w1), .unset, .unset, .unset, .unset, .unset, .unset, .unset] [(.long (1 : Int64))])) t_
      refine XS.lstore X8.here hx rfl (hb hby at_16) rfl (l' := #[.val (.int p0), .val (.int p1), .val (.long p2), .second, .val (.int (p0 &&& (3 : Int32))), .val (.ref w1), .val (.long (1 : Int64)), .second, .unset, .unset, .unset, .unset, .unset]) rfl ?_
      show Steps p.tables e below (T8.setTop (mkF m 18 #[.val (.int p0), .val (.int p1), .val (.long p2), .second, .val (.int (p0 &&& (3 : Int32))), .val (.ref w1), .val (.long (1 : Int64)), .second, .unset, .unset, .unset, .unset, .unset] [])) t_
      refine XS.lconst X8.here hx rfl (hb hby at_18) ?_
      show Steps p.tables e below (T8.setTop (mkF m 19 #[.val (.int p0), .val (.int p1), .val (.long p2), .second, .val (.int (p0 &&& (3 : Int32))), .val (.ref w1), .val (.long (1 : Int64)), .second, .unset, .unset, .unset, .unset, .unset] [(.long (1 : Int64))])) t_
      refine XS.lstore X8.here hx rfl (hb hby at_19) rfl (l' := #[.val (.int p0), .val (.int p1), .val (.long p2), .second, .val (.int (p0 &&& (3 : Int32))), .val (.ref w1), .val (.long (1 : Int64)), .second, .val (.long (1 : Int64)), .second, .unset, .unset, .unset]) rfl ?_
      show Steps p.tables e below (T8.setTop (mkF m 21 #[.val (.int p0), .val (.int p1), .val (.long p2), .second, .val (.int (p0 &&& (3 : Int32))), .val (.ref w1), .val (.long (1 : Int64)), .second, .val (.long (1 : Int64)), .second, .unset, .unset, .unset] [])) t_
      refine XS.goto X8.here hx rfl (pc0 := 21) (pc' := 79) rfl (hb hby at_21) (by decide) (by decide) ?_
      show Steps p.tables e below (T8.setTop (mkF m 79 #[.val (.int p0), .val (.int p1), .val (.long p2), .second, .val (.int (p0 &&& (3 : Int32))), .val (.ref w1), .val (.long (1 : Int64)), .second, .val (.long (1 : Int64)), .second, .unset, .unset, .unset] [])) t_
      exact k_
    exact own_tail p0 p1 p2 _ w1 _ _ wO wA wM X8 hx hZ hw hby hml hown hlk hrt e8 Z0 N0 SO SA SM E1 F1
  · refine Go.via (B := s₁.setTop (mkF m 24 #[.val (.int p0), .val (.int p1), .val (.long p2), .second, .val (.int (p0 &&& (3 : Int32))), .unset, .unset, .unset, .unset, .unset, .unset, .unset, .unset] [])) (fun t_ k_ => XS.ifYes X0.here hx rfl (pc0 := 7) (pc' := 24) rfl (hb hby at_7) rfl (((if0 _ _).trans (feq hw0).2)) (by decide) (by decide) k_) ?_
    refine Go.via (B := s₁.setTop (mkF m 27 #[.val (.int p0), .val (.int p1), .val (.long p2), .second, .val (.int (p0 &&& (3 : Int32))), .unset, .unset, .unset, .unset, .unset, .unset, .unset, .unset] [(.int (1 : Int32)), (.int (p0 &&& (3 : Int32)))])) (fun t_ k_ => ?_) ?_
    · show Steps p.tables e below (s₁.setTop (mkF m 24 #[.val (.int p0), .val (.int p1), .val (.long p2), .second, .val (.int (p0 &&& (3 : Int32))), .unset, .unset, .unset, .unset, .unset, .unset, .unset, .unset] [])) t_
      refine XS.iload X0.here hx rfl (hb hby at_24) rfl ?_
      show Steps p.tables e below (s₁.setTop (mkF m 26 #[.val (.int p0), .val (.int p1), .val (.long p2), .second, .val (.int (p0 &&& (3 : Int32))), .unset, .unset, .unset, .unset, .unset, .unset, .unset, .unset] [(.int (p0 &&& (3 : Int32)))])) t_
      refine XS.iconst X0.here hx rfl (hb hby at_26) ?_
      show Steps p.tables e below (s₁.setTop (mkF m 27 #[.val (.int p0), .val (.int p1), .val (.long p2), .second, .val (.int (p0 &&& (3 : Int32))), .unset, .unset, .unset, .unset, .unset, .unset, .unset, .unset] [(.int (1 : Int32)), (.int (p0 &&& (3 : Int32)))])) t_
      exact k_
    by_cases hw1 : (p0 &&& (3 : Int32)) = (1 : Int32)
    · refine Go.via (B := s₁.setTop (mkF m 30 #[.val (.int p0), .val (.int p1), .val (.long p2), .second, .val (.int (p0 &&& (3 : Int32))), .unset, .unset, .unset, .unset, .unset, .unset, .unset, .unset] [])) (fun t_ k_ => XS.icmpNo X0.here hx rfl (hb hby at_27) rfl ((teq hw1).2) k_) ?_
      obtain ⟨T9, X9, e9, st9⟩ := getS2 X0 hx hZ hown (host := "") (Or.inl (hw _ (List.mem_of_getElem? (i := 15) rfl))) Via.refl e0 SO (g := (mkF m 30 #[.val (.int p0), .val (.int p1), .val (.long p2), .second, .val (.int (p0 &&& (3 : Int32))), .unset, .unset, .unset, .unset, .unset, .unset, .unset, .unset] [])) rfl (hb hby at_30)
      refine Go.via st9 ?_
      show Go p.tables e below _ (T9.setTop (mkF m 33 #[.val (.int p0), .val (.int p1), .val (.long p2), .second, .val (.int (p0 &&& (3 : Int32))), .unset, .unset, .unset, .unset, .unset, .unset, .unset, .unset] [(.ref wO)]))
      refine Go.via (B := T9.setTop (mkF m 79 #[.val (.int p0), .val (.int p1), .val (.long p2), .second, .val (.int (p0 &&& (3 : Int32))), .val (.ref wO), .val (.long (0 : Int64)), .second, .val (.long (1 : Int64)), .second, .unset, .unset, .unset] [])) (fun t_ k_ => ?_) ?_
      · show Steps p.tables e below (T9.setTop (mkF m 33 #[.val (.int p0), .val (.int p1), .val (.long p2), .second, .val (.int (p0 &&& (3 : Int32))), .unset, .unset, .unset, .unset, .unset, .unset, .unset, .unset] [(.ref wO)])) t_
        refine XS.astore X9.here hx rfl (hb hby at_33) rfl rfl (l' := #[.val (.int p0), .val (.int p1), .val (.long p2), .second, .val (.int (p0 &&& (3 : Int32))), .val (.ref wO), .unset, .unset, .unset, .unset, .unset, .unset, .unset]) rfl ?_
        show Steps p.tables e below (T9.setTop (mkF m 35 #[.val (.int p0), .val (.int p1), .val (.long p2), .second, .val (.int (p0 &&& (3 : Int32))), .val (.ref wO), .unset, .unset, .unset, .unset, .unset, .unset, .unset] [])) t_
        refine XS.lconst X9.here hx rfl (hb hby at_35) ?_
        show Steps p.tables e below (T9.setTop (mkF m 36 #[.val (.int p0), .val (.int p1), .val (.long p2), .second, .val (.int (p0 &&& (3 : Int32))), .val (.ref wO), .unset, .unset, .unset, .unset, .unset, .unset, .unset] [(.long (0 : Int64))])) t_
        refine XS.lstore X9.here hx rfl (hb hby at_36) rfl (l' := #[.val (.int p0), .val (.int p1), .val (.long p2), .second, .val (.int (p0 &&& (3 : Int32))), .val (.ref wO), .val (.long (0 : Int64)), .second, .unset, .unset, .unset, .unset, .unset]) rfl ?_
        show Steps p.tables e below (T9.setTop (mkF m 38 #[.val (.int p0), .val (.int p1), .val (.long p2), .second, .val (.int (p0 &&& (3 : Int32))), .val (.ref wO), .val (.long (0 : Int64)), .second, .unset, .unset, .unset, .unset, .unset] [])) t_
        refine XS.lconst X9.here hx rfl (hb hby at_38) ?_
        show Steps p.tables e below (T9.setTop (mkF m 39 #[.val (.int p0), .val (.int p1), .val (.long p2), .second, .val (.int (p0 &&& (3 : Int32))), .val (.ref wO), .val (.long (0 : Int64)), .second, .unset, .unset, .unset, .unset, .unset] [(.long (1 : Int64))])) t_
        refine XS.lstore X9.here hx rfl (hb hby at_39) rfl (l' := #[.val (.int p0), .val (.int p1), .val (.long p2), .second, .val (.int (p0 &&& (3 : Int32))), .val (.ref wO), .val (.long (0 : Int64)), .second, .val (.long (1 : Int64)), .second, .unset, .unset, .unset]) rfl ?_
        show Steps p.tables e below (T9.setTop (mkF m 41 #[.val (.int p0), .val (.int p1), .val (.long p2), .second, .val (.int (p0 &&& (3 : Int32))), .val (.ref wO), .val (.long (0 : Int64)), .second, .val (.long (1 : Int64)), .second, .unset, .unset, .unset] [])) t_
        refine XS.goto X9.here hx rfl (pc0 := 41) (pc' := 79) rfl (hb hby at_41) (by decide) (by decide) ?_
        show Steps p.tables e below (T9.setTop (mkF m 79 #[.val (.int p0), .val (.int p1), .val (.long p2), .second, .val (.int (p0 &&& (3 : Int32))), .val (.ref wO), .val (.long (0 : Int64)), .second, .val (.long (1 : Int64)), .second, .unset, .unset, .unset] [])) t_
        exact k_
      exact own_tail p0 p1 p2 _ wO _ _ wO wA wM X9 hx hZ hw hby hml hown hlk hrt e9 Z0 N0 SO SA SM EO FO
    · refine Go.via (B := s₁.setTop (mkF m 44 #[.val (.int p0), .val (.int p1), .val (.long p2), .second, .val (.int (p0 &&& (3 : Int32))), .unset, .unset, .unset, .unset, .unset, .unset, .unset, .unset] [])) (fun t_ k_ => XS.icmpYes X0.here hx rfl (pc0 := 27) (pc' := 44) rfl (hb hby at_27) rfl ((feq hw1).2) (by decide) (by decide) k_) ?_
      refine Go.via (B := s₁.setTop (mkF m 47 #[.val (.int p0), .val (.int p1), .val (.long p2), .second, .val (.int (p0 &&& (3 : Int32))), .unset, .unset, .unset, .unset, .unset, .unset, .unset, .unset] [(.int (2 : Int32)), (.int (p0 &&& (3 : Int32)))])) (fun t_ k_ => ?_) ?_
      · show Steps p.tables e below (s₁.setTop (mkF m 44 #[.val (.int p0), .val (.int p1), .val (.long p2), .second, .val (.int (p0 &&& (3 : Int32))), .unset, .unset, .unset, .unset, .unset, .unset, .unset, .unset] [])) t_
        refine XS.iload X0.here hx rfl (hb hby at_44) rfl ?_
        show Steps p.tables e below (s₁.setTop (mkF m 46 #[.val (.int p0), .val (.int p1), .val (.long p2), .second, .val (.int (p0 &&& (3 : Int32))), .unset, .unset, .unset, .unset, .unset, .unset, .unset, .unset] [(.int (p0 &&& (3 : Int32)))])) t_
        refine XS.iconst X0.here hx rfl (hb hby at_46) ?_
        show Steps p.tables e below (s₁.setTop (mkF m 47 #[.val (.int p0), .val (.int p1), .val (.long p2), .second, .val (.int (p0 &&& (3 : Int32))), .unset, .unset, .unset, .unset, .unset, .unset, .unset, .unset] [(.int (2 : Int32)), (.int (p0 &&& (3 : Int32)))])) t_
        exact k_
      by_cases hw2 : (p0 &&& (3 : Int32)) = (2 : Int32)
      · refine Go.via (B := s₁.setTop (mkF m 50 #[.val (.int p0), .val (.int p1), .val (.long p2), .second, .val (.int (p0 &&& (3 : Int32))), .unset, .unset, .unset, .unset, .unset, .unset, .unset, .unset] [])) (fun t_ k_ => XS.icmpNo X0.here hx rfl (hb hby at_47) rfl ((teq hw2).2) k_) ?_
        obtain ⟨T10, X10, e10, st10⟩ := getS2 X0 hx hZ hown (host := "") (Or.inl (hw _ (List.mem_of_getElem? (i := 14) rfl))) Via.refl e0 SA (g := (mkF m 50 #[.val (.int p0), .val (.int p1), .val (.long p2), .second, .val (.int (p0 &&& (3 : Int32))), .unset, .unset, .unset, .unset, .unset, .unset, .unset, .unset] [])) rfl (hb hby at_50)
        refine Go.via st10 ?_
        show Go p.tables e below _ (T10.setTop (mkF m 53 #[.val (.int p0), .val (.int p1), .val (.long p2), .second, .val (.int (p0 &&& (3 : Int32))), .unset, .unset, .unset, .unset, .unset, .unset, .unset, .unset] [(.ref wA)]))
        refine Go.via (B := T10.setTop (mkF m 79 #[.val (.int p0), .val (.int p1), .val (.long p2), .second, .val (.int (p0 &&& (3 : Int32))), .val (.ref wA), .val (.long (0 : Int64)), .second, .val (.long (9223372036854775807 : Int64)), .second, .unset, .unset, .unset] [])) (fun t_ k_ => ?_) ?_
        · show Steps p.tables e below (T10.setTop (mkF m 53 #[.val (.int p0), .val (.int p1), .val (.long p2), .second, .val (.int (p0 &&& (3 : Int32))), .unset, .unset, .unset, .unset, .unset, .unset, .unset, .unset] [(.ref wA)])) t_
          refine XS.astore X10.here hx rfl (hb hby at_53) rfl rfl (l' := #[.val (.int p0), .val (.int p1), .val (.long p2), .second, .val (.int (p0 &&& (3 : Int32))), .val (.ref wA), .unset, .unset, .unset, .unset, .unset, .unset, .unset]) rfl ?_
          show Steps p.tables e below (T10.setTop (mkF m 55 #[.val (.int p0), .val (.int p1), .val (.long p2), .second, .val (.int (p0 &&& (3 : Int32))), .val (.ref wA), .unset, .unset, .unset, .unset, .unset, .unset, .unset] [])) t_
          refine XS.lconst X10.here hx rfl (hb hby at_55) ?_
          show Steps p.tables e below (T10.setTop (mkF m 56 #[.val (.int p0), .val (.int p1), .val (.long p2), .second, .val (.int (p0 &&& (3 : Int32))), .val (.ref wA), .unset, .unset, .unset, .unset, .unset, .unset, .unset] [(.long (0 : Int64))])) t_
          refine XS.lstore X10.here hx rfl (hb hby at_56) rfl (l' := #[.val (.int p0), .val (.int p1), .val (.long p2), .second, .val (.int (p0 &&& (3 : Int32))), .val (.ref wA), .val (.long (0 : Int64)), .second, .unset, .unset, .unset, .unset, .unset]) rfl ?_
          show Steps p.tables e below (T10.setTop (mkF m 58 #[.val (.int p0), .val (.int p1), .val (.long p2), .second, .val (.int (p0 &&& (3 : Int32))), .val (.ref wA), .val (.long (0 : Int64)), .second, .unset, .unset, .unset, .unset, .unset] [])) t_
          refine X10.ldc2Long hx hown (mvT hZ (hw _ (List.mem_of_getElem? (i := 13) rfl))) (g := (mkF m 58 #[.val (.int p0), .val (.int p1), .val (.long p2), .second, .val (.int (p0 &&& (3 : Int32))), .val (.ref wA), .val (.long (0 : Int64)), .second, .unset, .unset, .unset, .unset, .unset] [])) rfl (hb hby at_58) _ ?_
          show Steps p.tables e below (T10.setTop (mkF m 61 #[.val (.int p0), .val (.int p1), .val (.long p2), .second, .val (.int (p0 &&& (3 : Int32))), .val (.ref wA), .val (.long (0 : Int64)), .second, .unset, .unset, .unset, .unset, .unset] [(.long (9223372036854775807 : Int64))])) t_
          refine XS.lstore X10.here hx rfl (hb hby at_61) rfl (l' := #[.val (.int p0), .val (.int p1), .val (.long p2), .second, .val (.int (p0 &&& (3 : Int32))), .val (.ref wA), .val (.long (0 : Int64)), .second, .val (.long (9223372036854775807 : Int64)), .second, .unset, .unset, .unset]) rfl ?_
          show Steps p.tables e below (T10.setTop (mkF m 63 #[.val (.int p0), .val (.int p1), .val (.long p2), .second, .val (.int (p0 &&& (3 : Int32))), .val (.ref wA), .val (.long (0 : Int64)), .second, .val (.long (9223372036854775807 : Int64)), .second, .unset, .unset, .unset] [])) t_
          refine XS.goto X10.here hx rfl (pc0 := 63) (pc' := 79) rfl (hb hby at_63) (by decide) (by decide) ?_
          show Steps p.tables e below (T10.setTop (mkF m 79 #[.val (.int p0), .val (.int p1), .val (.long p2), .second, .val (.int (p0 &&& (3 : Int32))), .val (.ref wA), .val (.long (0 : Int64)), .second, .val (.long (9223372036854775807 : Int64)), .second, .unset, .unset, .unset] [])) t_
          exact k_
        exact own_tail p0 p1 p2 _ wA _ _ wO wA wM X10 hx hZ hw hby hml hown hlk hrt e10 Z0 N0 SO SA SM EA FA
      · refine Go.via (B := s₁.setTop (mkF m 66 #[.val (.int p0), .val (.int p1), .val (.long p2), .second, .val (.int (p0 &&& (3 : Int32))), .unset, .unset, .unset, .unset, .unset, .unset, .unset, .unset] [])) (fun t_ k_ => XS.icmpYes X0.here hx rfl (pc0 := 47) (pc' := 66) rfl (hb hby at_47) rfl ((feq hw2).2) (by decide) (by decide) k_) ?_
        obtain ⟨T11, X11, e11, st11⟩ := getS2 X0 hx hZ hown (host := "") (Or.inl (hw _ (List.mem_of_getElem? (i := 12) rfl))) Via.refl e0 SM (g := (mkF m 66 #[.val (.int p0), .val (.int p1), .val (.long p2), .second, .val (.int (p0 &&& (3 : Int32))), .unset, .unset, .unset, .unset, .unset, .unset, .unset, .unset] [])) rfl (hb hby at_66)
        refine Go.via st11 ?_
        show Go p.tables e below _ (T11.setTop (mkF m 69 #[.val (.int p0), .val (.int p1), .val (.long p2), .second, .val (.int (p0 &&& (3 : Int32))), .unset, .unset, .unset, .unset, .unset, .unset, .unset, .unset] [(.ref wM)]))
        refine Go.via (B := T11.setTop (mkF m 79 #[.val (.int p0), .val (.int p1), .val (.long p2), .second, .val (.int (p0 &&& (3 : Int32))), .val (.ref wM), .val (.long (1 : Int64)), .second, .val (.long (9223372036854775807 : Int64)), .second, .unset, .unset, .unset] [])) (fun t_ k_ => ?_) ?_
        · show Steps p.tables e below (T11.setTop (mkF m 69 #[.val (.int p0), .val (.int p1), .val (.long p2), .second, .val (.int (p0 &&& (3 : Int32))), .unset, .unset, .unset, .unset, .unset, .unset, .unset, .unset] [(.ref wM)])) t_
          refine XS.astore X11.here hx rfl (hb hby at_69) rfl rfl (l' := #[.val (.int p0), .val (.int p1), .val (.long p2), .second, .val (.int (p0 &&& (3 : Int32))), .val (.ref wM), .unset, .unset, .unset, .unset, .unset, .unset, .unset]) rfl ?_
          show Steps p.tables e below (T11.setTop (mkF m 71 #[.val (.int p0), .val (.int p1), .val (.long p2), .second, .val (.int (p0 &&& (3 : Int32))), .val (.ref wM), .unset, .unset, .unset, .unset, .unset, .unset, .unset] [])) t_
          refine XS.lconst X11.here hx rfl (hb hby at_71) ?_
          show Steps p.tables e below (T11.setTop (mkF m 72 #[.val (.int p0), .val (.int p1), .val (.long p2), .second, .val (.int (p0 &&& (3 : Int32))), .val (.ref wM), .unset, .unset, .unset, .unset, .unset, .unset, .unset] [(.long (1 : Int64))])) t_
          refine XS.lstore X11.here hx rfl (hb hby at_72) rfl (l' := #[.val (.int p0), .val (.int p1), .val (.long p2), .second, .val (.int (p0 &&& (3 : Int32))), .val (.ref wM), .val (.long (1 : Int64)), .second, .unset, .unset, .unset, .unset, .unset]) rfl ?_
          show Steps p.tables e below (T11.setTop (mkF m 74 #[.val (.int p0), .val (.int p1), .val (.long p2), .second, .val (.int (p0 &&& (3 : Int32))), .val (.ref wM), .val (.long (1 : Int64)), .second, .unset, .unset, .unset, .unset, .unset] [])) t_
          refine X11.ldc2Long hx hown (mvT hZ (hw _ (List.mem_of_getElem? (i := 13) rfl))) (g := (mkF m 74 #[.val (.int p0), .val (.int p1), .val (.long p2), .second, .val (.int (p0 &&& (3 : Int32))), .val (.ref wM), .val (.long (1 : Int64)), .second, .unset, .unset, .unset, .unset, .unset] [])) rfl (hb hby at_74) _ ?_
          show Steps p.tables e below (T11.setTop (mkF m 77 #[.val (.int p0), .val (.int p1), .val (.long p2), .second, .val (.int (p0 &&& (3 : Int32))), .val (.ref wM), .val (.long (1 : Int64)), .second, .unset, .unset, .unset, .unset, .unset] [(.long (9223372036854775807 : Int64))])) t_
          refine XS.lstore X11.here hx rfl (hb hby at_77) rfl (l' := #[.val (.int p0), .val (.int p1), .val (.long p2), .second, .val (.int (p0 &&& (3 : Int32))), .val (.ref wM), .val (.long (1 : Int64)), .second, .val (.long (9223372036854775807 : Int64)), .second, .unset, .unset, .unset]) rfl ?_
          show Steps p.tables e below (T11.setTop (mkF m 79 #[.val (.int p0), .val (.int p1), .val (.long p2), .second, .val (.int (p0 &&& (3 : Int32))), .val (.ref wM), .val (.long (1 : Int64)), .second, .val (.long (9223372036854775807 : Int64)), .second, .unset, .unset, .unset] [])) t_
          exact k_
        exact own_tail p0 p1 p2 _ wM _ _ wO wA wM X11 hx hZ hw hby hml hown hlk hrt e11 Z0 N0 SO SA SM EM FM
set_option maxRecDepth 65536 in
set_option maxHeartbeats 40000000 in
theorem comes_1 {Post : Tables → Env → Array Value → State → Outcome → State → Prop} (hpost : ∀ tb e args s v u, (limb_1_1.after args s (.returned v) u = true ∧ limb_1_2.after args s (.returned v) u = true ∧ True) → FrameEnd s (.returned v) u (Jvm.fieldLocs frame_1_writes args s ++ Jvm.arrayLocs frame_1_arrays args s ++ Jvm.staticLocs frame_1_statics s) 0 0 → Post tb e args s (.returned v) u) :
    ArmFor flags0 classFile x code maxLocals ret World_1 tables_1 room_1 Calls_1 rest_1 Pre_1 Post := by
  intro l hfl _ _ p e ha hc hk s m args below hf hA hF happ hP
  obtain ⟨hcalls, hrest, hpre⟩ := hP
  obtain ⟨-, -, -, hnamed, -, -, -, hat⟩ := (Spec.applies_iff hf).mp happ
  obtain ⟨hg, hn⟩ := and_e (Cond.before_iff.mp (show (Jvm.Cond.and given_1 narrow_1).before args s = true from hpre))
  obtain ⟨hcount, hg0⟩ := and_e hg
  obtain ⟨ha0, hg1⟩ := and_e hg0
  obtain ⟨ha1, hg2⟩ := and_e hg1
  have ha2 := hg2
  obtain ⟨w0, w1, w2, rfl⟩ : ∃ w0 w1 w2 : Value, args = #[w0, w1, w2] := by
    have hs : args.size = 3 := by simpa [Cond.value, given_1] using hcount
    obtain ⟨L⟩ := args
    match L, hs with
    | [w0, w1, w2], _ => exact ⟨w0, w1, w2, rfl⟩
  have hw := fun d (hd : d ∈ tables_1) => atoms_spec (ws := Jvm.Cond.code x code maxLocals ret :: tables_1) hat d (List.mem_cons_of_mem _ hd)
  have hfit : Fit s := fun {y c} hc i hi => by
    obtain ⟨ha, rfl⟩ := Array.getElem?_eq_some_iff.mp hc
    have q := List.all_eq_true.mp ((Array.all_eq_true_iff_forall_mem.mp hF) _ (Array.getElem_mem ha)) i (List.mem_range.mpr hi)
    simpa [Array.getElem?_eq_getElem hi] using q
  obtain ⟨i0, ei0⟩ := is_v ha0
  obtain rfl : w0 = (.int i0) := Option.some.inj ei0
  obtain ⟨i1, ei1⟩ := is_v ha1
  obtain rfl : w1 = (.int i1) := Option.some.inj ei1
  obtain ⟨i2, ei2⟩ := isL_v ha2
  obtain rfl : w2 = (.long i2) := Option.some.inj ei2
  obtain ⟨xE, r0⟩ := and_e hn
  obtain ⟨xA, r1⟩ := and_e r0
  obtain ⟨oE, r2⟩ := and_e r1
  obtain ⟨oA, r3⟩ := and_e r2
  obtain ⟨xM, r4⟩ := and_e r3
  obtain ⟨oM, r5⟩ := and_e r4
  obtain ⟨xO, r6⟩ := and_e r5
  have oO := r6
  obtain ⟨w1, evE⟩ := exa_v xE
  have XE := Exa.start evE xE
  have SE := Sta.start evE (Or.inr ⟨(hw _ (List.mem_of_getElem? (i := 1) rfl)), (hw _ (List.mem_of_getElem? (i := 2) rfl))⟩)
  have OE := Fld.start ((fld_at evE).symm.trans (own_eqi oE))
  obtain ⟨wA, evA⟩ := exa_v xA
  have XA := Exa.start evA xA
  have SA := Sta.start evA (Or.inr ⟨(hw _ (List.mem_of_getElem? (i := 1) rfl)), (hw _ (List.mem_of_getElem? (i := 9) rfl))⟩)
  have OA := Fld.start ((fld_at evA).symm.trans (own_eqi oA))
  obtain ⟨wM, evM⟩ := exa_v xM
  have XM := Exa.start evM xM
  have SM := Sta.start evM (Or.inr ⟨(hw _ (List.mem_of_getElem? (i := 1) rfl)), (hw _ (List.mem_of_getElem? (i := 11) rfl))⟩)
  have OM := Fld.start ((fld_at evM).symm.trans (own_eqi oM))
  obtain ⟨wO, evO⟩ := exa_v xO
  have XO := Exa.start evO xO
  have SO := Sta.start evO (Or.inr ⟨(hw _ (List.mem_of_getElem? (i := 1) rfl)), (hw _ (List.mem_of_getElem? (i := 16) rfl))⟩)
  have OO := Fld.start ((fld_at evO).symm.trans (own_eqi oO))
  obtain ⟨n, o, h1, h2, h3, _, L, rfl, ⟨rfl, N⟩, hq⟩ := rm0 l s _ hw tables_1 i0 i1 i2 w1 wO wA wM s.heap s.heap.size (Nat.le_refl _) SE SO SA SM XE XO XA XM (fit_one (OE.ne OO (by decide)) (OE.ne OA (by decide)) (OE.ne OM (by decide))) (fit_opt (OO.ne OA (by decide)) (OO.ne OM (by decide))) fit_any (fit_more (OM.ne OO (by decide)) (OM.ne OA (by decide))) p e ha hc hk s m _ below hf ((Spec.applies_iff_loose hf).mp happ).1 ⟨rfl, State.Warmed39.refl s, rfl⟩ trivial
  refine ⟨n, _, h1, h2, h3, hpost _ _ _ _ _ _ ⟨Cond.after_iff.mpr rfl, Cond.after_iff.mpr (eq_i res_at (Term.int_eval (1)) rfl), trivial⟩ ⟨hq.1, hq.2.1, (hq.2.2.sift fun y hy => Or.inr (N y hy)).mono (by decide) (by decide)⟩⟩
theorem main_1_1 : Claimed_1_1 := comes_1 fun _ _ _ _ _ _ h hF => ⟨h.1, hF⟩
theorem main_1_2 : Claimed_1_2 := comes_1 fun _ _ _ _ _ _ h hF => ⟨h.2.1, hF⟩
end Jvm.Pilot.@@N@@
namespace Jvm.Pilot.@@N@@
open Jvm Jvm.ClassFile Sem Op Lib Jvm.Free Jvm.Stand Jvm.Pilot.@@N@@.Jvm.D
/-! MADE BY PROGRAM (witnessworld.py) out of the Statement's table words and the real class files: 12 classes; the members and pool entries that the words name. The judged class is class 1, her method 1. -/
namespace start1
open Jvm.ClassFile
def u (s : String) : CpInfo := .utf8 (stringToUtf16 s)
/-- a pool by its gaps: so many unusable entries, then the entry; so many at the end -/
def gap : Nat → List CpInfo → List CpInfo
  | 0, r => r
  | n + 1, r => .unusable :: gap n r
def poolList (es : List (Nat × CpInfo)) (last : Nat) : List CpInfo := es.foldr (fun e r => gap e.1 (e.2 :: r)) (gap last [])
def pool (es : List (Nat × CpInfo)) (last : Nat) : Array CpInfo := ⟨poolList es last⟩
def fileOf (pool : Array CpInfo) (this : Nat) (attrs : Array Attribute := #[]) (ms : Array MethodInfo := #[]) (fl : Nat := 33) (sup : Nat := 0) (ifs : Array Nat := #[]) (fds : Array FieldInfo := #[]) : ClassFile where
  minorVersion := 0
  majorVersion := 65
  constantPool := pool
  accessFlags := fl
  thisClass := this
  superClass := sup
  interfaces := ifs
  fields := fds
  methods := ms
  attributes := attrs
def plain (name : String) (sup : Option ClassId) : Class where
  name := name
  kind := .ordinary
  loader := none
  accessFlags := 33
  super := sup
  interfaces := #[]
  cf := none
  fields := #[]
  methods := #[]
  instanceTypes := #[]
  staticTypes := #[]
  resolved := #[]
  callSites := []
  init := .initialized
  statics := none
  mirror := none

def pool0 : Array CpInfo := pool [(5, u "<init>"), (0, u "()V"), (1, .class_ 10), (1, u "java/lang/Object")] 113

def k0m0 : Method := { name := "<init>", desc := "()V", sig := { parameters := [], returnType := none }, accessFlags := 1, code := none }
/-- java/lang/Object -/
def k0 : Class := { plain "java/lang/Object" none with
  accessFlags := 33
  interfaces := #[]
  cf := some (fileOf pool0 8 #[] #[{ accessFlags := 1, nameIndex := 5, descriptorIndex := 6, attributes := #[] }] 33 0 #[] #[])
  fields := #[]
  methods := #[k0m0]
  instanceTypes := #[]
  staticTypes := #[]
  resolved := Array.replicate 124 none
  statics := none }

def pool1 : Array CpInfo := pool [(2, .class_ 4), (1, u "java/lang/Object"), (0, u "<init>"), (0, u "()V"), (0, .fieldref 8 9), (0, .class_ 10), (0, .nameAndType 11 12), (0, u "com/example/shelfmark/shelfmark/xquery/expr/SequenceType$Occurrence"), (0, u "ONE"), (0, u "Lcom/example/shelfmark/shelfmark/xquery/expr/SequenceType$Occurrence;"), (0, .fieldref 8 14), (0, .nameAndType 15 12), (0, u "OPTIONAL"), (0, .fieldref 8 17), (0, .nameAndType 18 12), (0, u "ANY"), (2, .long 9223372036854775807), (1, .fieldref 8 24), (0, .nameAndType 25 12), (0, u "ONE_OR_MORE"), (0, .methodref 8 27), (0, .nameAndType 28 29), (0, u "allows"), (0, u "(J)Z"), (0, .class_ 31), (0, u "com/example/shelfmark/shelfmark/xquery/expr/OccurrenceAllowsPinLaw"), (2, u "law"), (0, u "(IIJ)Z")] 7

def k1m0 : Method := { name := "<init>", desc := "()V", sig := { parameters := [], returnType := none }, accessFlags := 1, code := none }
def k1c1 : Code := { maxStack := 4, maxLocals := 13, code := code, exceptionTable := #[], attributes := #[] }
def k1m1 : Method := { name := "law", desc := "(IIJ)Z", sig := { parameters := [.int, .int, .long], returnType := some .boolean }, accessFlags := 9, code := some k1c1 }
/-- com/example/shelfmark/shelfmark/xquery/expr/OccurrenceAllowsPinLaw -/
def k1 : Class := { plain "com/example/shelfmark/shelfmark/xquery/expr/OccurrenceAllowsPinLaw" (some 0) with
  accessFlags := 49
  interfaces := #[]
  cf := some (fileOf pool1 30 #[] #[{ accessFlags := 1, nameIndex := 5, descriptorIndex := 6, attributes := #[] }, { accessFlags := 9, nameIndex := 34, descriptorIndex := 35, attributes := #[] }] 49 2 #[] #[])
  fields := #[]
  methods := #[k1m0, k1m1]
  instanceTypes := #[]
  staticTypes := #[]
  resolved := Array.replicate 43 none
  statics := none }

def pool2 : Array CpInfo := pool [(1, .class_ 2), (0, u "java/lang/constant/Constable"), (0, .class_ 4), (0, u "java/lang/Object")] 6

/-- java/lang/constant/Constable -/
def k2 : Class := { plain "java/lang/constant/Constable" (some 0) with
  accessFlags := 1537
  interfaces := #[]
  cf := some (fileOf pool2 1 #[] #[] 1537 3 #[] #[])
  fields := #[]
  methods := #[]
  instanceTypes := #[]
  staticTypes := #[]
  resolved := Array.replicate 11 none
  statics := none }

def pool3 : Array CpInfo := pool [(1, .class_ 2), (0, u "java/lang/Comparable"), (0, .class_ 4), (0, u "java/lang/Object")] 7

/-- java/lang/Comparable -/
def k3 : Class := { plain "java/lang/Comparable" (some 0) with
  accessFlags := 1537
  interfaces := #[]
  cf := some (fileOf pool3 1 #[] #[] 1537 3 #[] #[])
  fields := #[]
  methods := #[]
  instanceTypes := #[]
  staticTypes := #[]
  resolved := Array.replicate 12 none
  statics := none }

def pool4 : Array CpInfo := pool [(1, .class_ 2), (0, u "java/io/Serializable"), (0, .class_ 4), (0, u "java/lang/Object")] 2

/-- java/io/Serializable -/
def k4 : Class := { plain "java/io/Serializable" (some 0) with
  accessFlags := 1537
  interfaces := #[]
  cf := some (fileOf pool4 1 #[] #[] 1537 3 #[] #[])
  fields := #[]
  methods := #[]
  instanceTypes := #[]
  staticTypes := #[]
  resolved := Array.replicate 7 none
  statics := none }

def pool5 : Array CpInfo := pool [(2, .class_ 4), (1, u "java/lang/Enum"), (0, u "name"), (0, u "Ljava/lang/String;"), (2, u "ordinal"), (0, u "I"), (1, .class_ 14), (1, u "java/lang/Object"), (4, u "hash"), (86, .class_ 108), (1, u "java/lang/Enum$EnumDesc"), (2, .class_ 112), (0, u "java/lang/constant/Constable"), (0, .class_ 114), (0, u "java/lang/Comparable"), (0, .class_ 116), (0, u "java/io/Serializable")] 87

/-- java/lang/Enum -/
def k5 : Class := { plain "java/lang/Enum" (some 0) with
  accessFlags := 1057
  interfaces := #[2, 3, 4]
  cf := some (fileOf pool5 2 #[.nestMembers #[106]] #[] 1057 12 #[111, 113, 115] #[{ accessFlags := 18, nameIndex := 5, descriptorIndex := 6, attributes := #[] }, { accessFlags := 18, nameIndex := 9, descriptorIndex := 10, attributes := #[] }, { accessFlags := 2, nameIndex := 19, descriptorIndex := 10, attributes := #[] }])
  fields := #[{ name := "name", type := (.object "java/lang/String"), accessFlags := 18, slot := 0, constantValue := 0 }, { name := "ordinal", type := .int, accessFlags := 18, slot := 1, constantValue := 0 }, { name := "hash", type := .int, accessFlags := 2, slot := 2, constantValue := 0 }]
  methods := #[]
  instanceTypes := #[(.object "java/lang/String"), .int, .int]
  staticTypes := #[]
  resolved := Array.replicate 204 none
  statics := none }

def pool6 : Array CpInfo := pool [(1, .class_ 2), (0, u "com/example/shelfmark/shelfmark/xquery/expr/SequenceType$Occurrence"), (2, u "ONE"), (0, u "Lcom/example/shelfmark/shelfmark/xquery/expr/SequenceType$Occurrence;"), (0, .fieldref 1 8), (0, .nameAndType 9 6), (0, u "OPTIONAL"), (0, .fieldref 1 11), (0, .nameAndType 12 6), (0, u "ANY"), (0, .fieldref 1 14), (0, .nameAndType 15 6), (0, u "ONE_OR_MORE"), (2, u "$VALUES"), (0, u "[Lcom/example/shelfmark/shelfmark/xquery/expr/SequenceType$Occurrence;"), (6, .class_ 28), (1, u "java/lang/Enum"), (8, u "indicator"), (0, u "Ljava/lang/String;"), (26, u "allows"), (0, u "(J)Z"), (9, .class_ 77), (0, u "com/example/shelfmark/shelfmark/xquery/expr/SequenceType")] 2

def k6c0 : Code := { maxStack := 4, maxLocals := 3, code := prog_122_method_4_code, exceptionTable := #[], attributes := #[] }
def k6m0 : Method := { name := "allows", desc := "(J)Z", sig := { parameters := [.long], returnType := some .boolean }, accessFlags := 0, code := some k6c0 }
/-- com/example/shelfmark/shelfmark/xquery/expr/SequenceType$Occurrence -/
def k6 : Class := { plain "com/example/shelfmark/shelfmark/xquery/expr/SequenceType$Occurrence" (some 5) with
  accessFlags := 16433
  interfaces := #[]
  cf := some (fileOf pool6 1 #[.nestHost 76] #[{ accessFlags := 0, nameIndex := 65, descriptorIndex := 66, attributes := #[] }] 16433 26 #[] #[{ accessFlags := 16409, nameIndex := 5, descriptorIndex := 6, attributes := #[] }, { accessFlags := 16409, nameIndex := 9, descriptorIndex := 6, attributes := #[] }, { accessFlags := 16409, nameIndex := 12, descriptorIndex := 6, attributes := #[] }, { accessFlags := 16409, nameIndex := 15, descriptorIndex := 6, attributes := #[] }, { accessFlags := 18, nameIndex := 37, descriptorIndex := 38, attributes := #[] }, { accessFlags := 4122, nameIndex := 18, descriptorIndex := 19, attributes := #[] }])
  fields := #[{ name := "ONE", type := (.object "com/example/shelfmark/shelfmark/xquery/expr/SequenceType$Occurrence"), accessFlags := 16409, slot := 0, constantValue := 0 }, { name := "OPTIONAL", type := (.object "com/example/shelfmark/shelfmark/xquery/expr/SequenceType$Occurrence"), accessFlags := 16409, slot := 1, constantValue := 0 }, { name := "ANY", type := (.object "com/example/shelfmark/shelfmark/xquery/expr/SequenceType$Occurrence"), accessFlags := 16409, slot := 2, constantValue := 0 }, { name := "ONE_OR_MORE", type := (.object "com/example/shelfmark/shelfmark/xquery/expr/SequenceType$Occurrence"), accessFlags := 16409, slot := 3, constantValue := 0 }, { name := "indicator", type := (.object "java/lang/String"), accessFlags := 18, slot := 3, constantValue := 0 }, { name := "$VALUES", type := (.array (.object "com/example/shelfmark/shelfmark/xquery/expr/SequenceType$Occurrence")), accessFlags := 4122, slot := 4, constantValue := 0 }]
  methods := #[k6m0]
  instanceTypes := #[(.object "java/lang/String"), .int, .int, (.object "java/lang/String")]
  staticTypes := #[(.object "com/example/shelfmark/shelfmark/xquery/expr/SequenceType$Occurrence"), (.object "com/example/shelfmark/shelfmark/xquery/expr/SequenceType$Occurrence"), (.object "com/example/shelfmark/shelfmark/xquery/expr/SequenceType$Occurrence"), (.object "com/example/shelfmark/shelfmark/xquery/expr/SequenceType$Occurrence"), (.array (.object "com/example/shelfmark/shelfmark/xquery/expr/SequenceType$Occurrence"))]
  resolved := Array.replicate 80 none
  statics := some 0 }

def pool7 : Array CpInfo := pool [(1, u "java/lang/Cloneable"), (0, .class_ 1), (0, u "java/lang/Object"), (0, .class_ 3)] 3

/-- java/lang/Cloneable -/
def k7 : Class := { plain "java/lang/Cloneable" (some 0) with
  accessFlags := 1537
  interfaces := #[]
  cf := some (fileOf pool7 2 #[] #[] 1537 4 #[] #[])
  fields := #[]
  methods := #[]
  instanceTypes := #[]
  staticTypes := #[]
  resolved := Array.replicate 8 none
  statics := none }

/-- the primitive byte -/
def k8 : Class := { plain "byte" none with kind := .primitive 'B', accessFlags := 0x411 }
/-- [B -/
def k9 : Class := { plain "[B" (some 0) with kind := .array 8 .byte, interfaces := #[7, 4], accessFlags := 1041 }

/-- the primitive int -/
def k10 : Class := { plain "int" none with kind := .primitive 'I', accessFlags := 0x411 }
/-- [I -/
def k11 : Class := { plain "[I" (some 0) with kind := .array 10 .int, interfaces := #[7, 4], accessFlags := 1041 }

def heap : Heap := #[{ cls := 6, slots := #[.ref 1, .ref 2, .ref 3, .ref 4, .null], vm := .statics 6 },
  { cls := 6, slots := #[.null, .int 0, .int 0, .null], vm := .none },
  { cls := 6, slots := #[.null, .int 1, .int 0, .null], vm := .none },
  { cls := 6, slots := #[.null, .int 2, .int 0, .null], vm := .none },
  { cls := 6, slots := #[.null, .int 3, .int 0, .null], vm := .none }]
def classes : Array Class := #[k0, k1, k2, k3, k4, k5, k6, k7, k8, k9, k10, k11]
def interned : List (Array UInt16 × Addr) := []
def slotsUsed : Nat := 21
def theMethod : MethodId := ⟨1, 1⟩
def args0 : Array Value := #[.int 5, .int 6, .long 7]
def aboutOver (below : List Frame) : State where
  vm := { classes := classes, interned := interned.toArray }
  heap := heap
  slotsUsed := slotsUsed
  threads := #[{ frames := .invoking theMethod args0 :: below }]
def below0 : List Frame := [.native { method := ⟨0, 0⟩, args := #[] }]
def about1 : State := aboutOver below0
def p0 : Program := .bare "" "" ""
def e0 : Env := launch0.env 0 0 0
theorem w_frames : about1.frames = Frame.invoking theMethod args0 :: below0 := rfl
set_option maxRecDepth 65536 in
theorem w_args : argsFit about1.vm theMethod args0 = true := by decide +kernel
set_option maxRecDepth 65536 in
theorem w_heap : heapFits about1 = true := by decide +kernel
set_option maxRecDepth 65536 in
theorem w_runnable : about1.curStatus? = some .runnable := by decide +kernel
set_option maxRecDepth 65536 in
theorem w_alone : about1.alone = true := by decide +kernel
set_option maxRecDepth 65536 in
theorem w_named : about1.methodNamed? x = some theMethod := by decide +kernel
set_option maxRecDepth 65536 in
theorem w_hears : about1.hears theMethod below0 = true := by decide +kernel
set_option maxRecDepth 65536 in
theorem w_ripe : about1.ripe theMethod args0 below0 = true := by decide +kernel
theorem w_running : about1.status = .running := rfl
set_option maxRecDepth 65536 in
theorem w_room : about1.hasRoom e0.platform room_1 = true :=
  launch0.hasRoom_least _ room_1 (by decide +kernel) (by decide +kernel) (by decide +kernel) (by decide +kernel) (by decide +kernel) (by decide +kernel)
theorem allAtoms_all (ts : List Jvm.Cond) (a : Array Jvm.Value) (st : Jvm.State) : (allAtoms ts).before a st = ts.all (fun c => c.before a st) := by
  induction ts with
  | nil => rfl
  | cons c t ih =>
    show (Jvm.Cond.and c (allAtoms t)).before a st = _
    rw [Jvm.Cond.before_and, ih, List.all_cons]
def words1 : List Jvm.Cond := Jvm.Cond.code x code maxLocals ret :: tables_1
/-- a 'code' word, met by the world's own term for the bytes: nothing is compared byte by byte -/
theorem code_word {y : MethodName} {bytes : ByteArray} {mx : Nat} {rt : Option FieldType} {a : Array Value} {s : State} {m : MethodId} {meth : Method} {c : Code} (h1 : s.methodNamed? y = some m) (h2 : s.vm.method? m = some meth) (h3 : meth.code = some c) (h4 : c.code = bytes)
    (h5 : (c.maxLocals == mx && c.exceptionTable.isEmpty && decide (c.maxStack ≤ mostOperands) && decide (meth.sig.returnType = rt) && !meth.locks && decide (parseMethodDescriptor y.desc = some meth.sig)) = true) : (Jvm.Cond.code y bytes mx rt).before a s = true := by
  simp only [Bool.and_eq_true, beq_iff_eq, Bool.not_eq_true', decide_eq_true_eq] at h5
  obtain ⟨⟨⟨⟨⟨g1, g2⟩, g3⟩, g4⟩, g5⟩, g6⟩ := h5
  simp [Cond.before, Cond.holds, Cond.value, h1, h2, h3, h4, g1, g2, g3, g4, g5, g6]
def isCode : Jvm.Cond → Bool
  | .code _ _ _ _ => true
  | _ => false
theorem all_split {L : List Jvm.Cond} {P : Jvm.Cond → Bool} (h1 : L.all (fun c => isCode c || P c) = true) (h2 : ∀ c ∈ L.filter isCode, P c = true) : L.all P = true := by
  refine List.all_eq_true.mpr fun c hc => ?_
  have h := List.all_eq_true.mp h1 c hc
  rcases Bool.eq_false_or_eq_true (isCode c) with hi | hi
  · exact h2 c (List.mem_filter.mpr ⟨hc, hi⟩)
  · simpa [hi] using h
set_option maxRecDepth 65536 in
theorem w_c0 : (Jvm.Cond.code x code maxLocals ret).before args0 about1 = true := code_word (m := ⟨1, 1⟩) (meth := k1m1) (c := k1c1) (by decide +kernel) rfl rfl rfl (by decide +kernel)
set_option maxRecDepth 65536 in
theorem w_c1 : (Jvm.Cond.code ({ cls := "com/example/shelfmark/shelfmark/xquery/expr/SequenceType$Occurrence", name := "allows", desc := "(J)Z" } : Jvm.MethodName) prog_122_method_4_code (3 : Nat) (Option.some Jvm.ClassFile.FieldType.boolean)).before args0 about1 = true := code_word (m := ⟨6, 0⟩) (meth := k6m0) (c := k6c0) (by decide +kernel) rfl rfl rfl (by decide +kernel)
def codes1 : List Jvm.Cond := [Jvm.Cond.code x code maxLocals ret, Jvm.Cond.code ({ cls := "com/example/shelfmark/shelfmark/xquery/expr/SequenceType$Occurrence", name := "allows", desc := "(J)Z" } : Jvm.MethodName) prog_122_method_4_code (3 : Nat) (Option.some Jvm.ClassFile.FieldType.boolean)]
set_option maxRecDepth 65536 in
theorem codes_eq : words1.filter isCode = codes1 := rfl
theorem w_codes : ∀ c ∈ words1.filter isCode, c.before args0 about1 = true := by
  rw [codes_eq]
  intro c hc
  simp only [codes1, List.mem_cons, List.not_mem_nil, or_false] at hc
  rcases hc with rfl | rfl
  · exact w_c0
  · exact w_c1
set_option maxRecDepth 65536 in
theorem w_t1 : words1.all (fun c => isCode c || c.before args0 about1) = true := by decide +kernel
theorem w_tables : (allAtoms (Jvm.Cond.code x code maxLocals ret :: tables_1)).before args0 about1 = true := by
  rw [allAtoms_all]
  show words1.all (fun c => c.before args0 about1) = true
  refine all_split ?_ w_codes
  rw [w_t1]
set_option maxRecDepth 65536 in
theorem w_case : (Jvm.Cond.and given_1 narrow_1).before args0 about1 = true := by decide +kernel
theorem w_applies : (headSpec (Jvm.Cond.code x code maxLocals ret :: tables_1) room_1).applies x e0.platform about1 = true :=
  (Spec.applies_iff w_frames).mpr ⟨w_running, w_runnable, w_alone, w_named, w_hears, w_ripe, w_room, w_tables⟩
theorem atStart : AtStart classFile x code maxLocals ret World_1 tables_1 room_1 Calls_1 rest_1 Pre_1 launch0 p0 e0 about1 theMethod args0 below0 :=
  ⟨lists_1, trivial, launch0.admits_env _ _ _, launch0.least_env, fairChoices_fair.cas, fairChoices_fair.clock, w_frames, w_args, w_heap, w_applies, trivial, trivial, w_case⟩
end start1
theorem witness_1 : WitnessClaimed_1 := ⟨start1.p0, start1.e0, start1.about1, start1.theMethod, start1.args0, start1.below0, start1.atStart⟩
end Jvm.Pilot.@@N@@
