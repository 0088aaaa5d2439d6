import JvmDerived
import JvmDerived.Pilot.@@N@@Statement
import JvmDerived.Pilot.@@N@@Code
set_option linter.unusedVariables false
set_option linter.unusedSimpArgs false
namespace Jvm.RoadKit
open Sem ClassFile Op Lib Jvm.Stand Jvm.Free Jvm.LawKit
section New
variable {p : Program} {l : Launch} {e : Env} {R : Room} {s : State} {m : MethodId} {args : Array Value} {below : List Frame} {meth : Method} {c : Code} {T : State} {locs : List Loc} {cells slots : Nat}
theorem retI (X : Stand p l e R s m args below meth c T locs cells slots) (hx : p.tables.exec = Jvm.exec) {pc : Nat} {Ls : Array Slot} {z : Int32} {rest : List Value} (hret : meth.sig.returnType = some .int) (hd : decode c.code pc = .ok (.ireturn, 1)) {fs : List Frame}
    (hl : ∀ (f : JFrame) (acts : List Action), f.method = m → f.locked = none → f.entered = [] → (doReturn e (T.setTop f) acts (some (.int z))).1 = T.setFrames fs) : Steps p.tables e below (T.setTop (mkF m pc Ls (.int z :: rest))) (T.setFrames fs) :=
  retOut X hx hret rfl (Or.inl ⟨rfl, Or.inl rfl, z, rfl⟩) hd hl
theorem retL (X : Stand p l e R s m args below meth c T locs cells slots) (hx : p.tables.exec = Jvm.exec) {pc : Nat} {Ls : Array Slot} {z : Int64} {rest : List Value} (hret : meth.sig.returnType = some .long) (hd : decode c.code pc = .ok (.lreturn, 1)) {fs : List Frame}
    (hl : ∀ (f : JFrame) (acts : List Action), f.method = m → f.locked = none → f.entered = [] → (doReturn e (T.setTop f) acts (some (.long z))).1 = T.setFrames fs) : Steps p.tables e below (T.setTop (mkF m pc Ls (.long z :: rest))) (T.setFrames fs) :=
  retOut X hx hret rfl (Or.inr (Or.inl ⟨rfl, rfl, z, rfl⟩)) hd hl
theorem retA (X : Stand p l e R s m args below meth c T locs cells slots) (hx : p.tables.exec = Jvm.exec) {pc : Nat} {Ls : Array Slot} {w : Value} {t : FieldType} {rest : List Value} (hret : meth.sig.returnType = some t) (ht : t.isReference = true) (hv : w.isRef = true) (hd : decode c.code pc = .ok (.areturn, 1)) {fs : List Frame}
    (hl : ∀ (f : JFrame) (acts : List Action), f.method = m → f.locked = none → f.entered = [] → (doReturn e (T.setTop f) acts (some w)).1 = T.setFrames fs) : Steps p.tables e below (T.setTop (mkF m pc Ls (w :: rest))) (T.setFrames fs) :=
  retOut X hx hret (by cases w <;> first | (simp [Value.isRef] at hv; done) | (cases t <;> first | rfl | (simp [FieldType.isReference] at ht; done))) (Or.inr (Or.inr (Or.inr (Or.inr ⟨rfl, ht, hv⟩)))) hd hl
/-- from here the run comes to an end of which P holds -/
def Go (tb : Tables) (e : Env) (below : List Frame) (P : State → Outcome → Prop) (A : State) : Prop := ∃ s₂ o, Steps tb e below A s₂ ∧ P s₂ o
theorem Go.via {tb : Tables} {e : Env} {below : List Frame} {P : State → Outcome → Prop} {A B : State} (st : ∀ t, Steps tb e below B t → Steps tb e below A t) (g : Go tb e below P B) : Go tb e below P A := by
  obtain ⟨s2, o, h, r⟩ := g
  exact ⟨s2, o, st _ h, r⟩
/-- what a contract says of the end -/
def PQ (s : State) (below : List Frame) (Q : Option Value → Heap → List Loc → Prop) (k n : Nat) (s₂ : State) (o : Outcome) : Prop := s₂.status = .running ∧ Ended s₂ below o ∧ ∃ v L, o = .returned v ∧ Q v s₂.heap L ∧ FrameEnd s o s₂ L k n
theorem Go.leave (X : Stand p l e R s m args below meth c T locs cells slots) (hlk : meth.locks = false) {v : Option Value} (hv : meth.sig.returnType = none → v = none) {A : State} {Q : Option Value → Heap → List Loc → Prop} {k n : Nat}
    (last : ∀ fs : List Frame, (∀ (f : JFrame) (acts : List Action), f.method = m → f.locked = none → f.entered = [] → (doReturn e (T.setTop f) acts v).1 = T.setFrames fs) → Steps p.tables e below A (T.setFrames fs)) (hk : cells ≤ k) (hn : slots ≤ n) (q : Q v T.heap locs) : Go p.tables e below (PQ s below Q k n) A := by
  obtain ⟨fs, hr, hrun, hended, hW, hsame⟩ := X.leave (v := v) hv hlk
  exact ⟨_, _, last fs hr, hrun, hended, _, _, rfl, q, ⟨_, rfl⟩, hW, hsame.mono hk hn⟩
end New
end Jvm.RoadKit
namespace Jvm.RoadKit
open Sem ClassFile Op Lib Jvm.Stand Jvm.Free Jvm.LawKit
section Ary
variable {p : Program} {l : Launch} {e : Env} {R : Room} {s : State} {m : MethodId} {args : Array Value} {below : List Frame} {meth : Method} {c : Code} {T : State} {locs : List Loc} {cells slots : Nat} {Z : State} {h h' : Heap} {a b : Addr} {ty : FieldType} {n : Nat} {f : Nat → Int32}
/-- the array at a: n places, the i-th holds f i -/
def Ary (Z : State) (h : Heap) (a : Addr) (ty : FieldType) (n : Nat) (f : Nat → Int32) : Prop := ∃ c : Cell, Arr Z h a c ty ∧ c.slots.size = n ∧ n < 2 ^ 31 ∧ ∀ i, i < n → c.slots[i]? = some (.int (f i)) ∧ fits ty (.int (f i)) = true
def arrUpd (f : Nat → Int32) (j : Nat) (x : Int32) (i : Nat) : Int32 := if i = j then x else f i
theorem Ary.lt (F : Ary Z h a ty n f) : a < h.size := by obtain ⟨c, A, -⟩ := F; exact A.lt
theorem Ary.ext (F : Ary Z h a ty n f) (E : Ext h h') : Ary Z h' a ty n f := by obtain ⟨c, A, r⟩ := F; exact ⟨c, A.ext E, r⟩
theorem Ary.other {sl : Nat} {v : Value} (F : Ary Z h b ty n f) (W : Wr h h' a sl v) (q : b ≠ a) : Ary Z h' b ty n f := by obtain ⟨c, A, r⟩ := F; exact ⟨c, A.other W q, r⟩
theorem Ary.keep {ws : List Addr} (F : Ary Z h a ty n f) (K : Keep h h' ws) (q : a ∉ ws) : Ary Z h' a ty n f := by obtain ⟨c, A, r⟩ := F; exact ⟨c, ⟨K.2.1 a c A.1 q, A.2⟩, r⟩
theorem Ary.new {k : ClassId} {z : Int32} (A : Arr Z h a (newA k ty z) ty) (q : ¬ z < 0) (hd : defaultValue ty = .int 0) (hf : fits ty (.int 0) = true) : Ary Z h a ty z.toNatClampNeg (fun _ => 0) :=
  ⟨_, A, sz_new _ _ _, (back32 q).2, fun i hi => ⟨by simp [newA, hd, Array.getElem?_replicate, hi], hf⟩⟩
theorem Ary.set {j : Nat} {x : Int32} (F : Ary Z h a ty n f) (W : Wr h h' a j (.int x)) (hv : fits ty (.int x) = true) : Ary Z h' a ty n (arrUpd f j x) := by
  obtain ⟨c, A, S, B, H⟩ := F
  obtain ⟨cell, w1, w2, w3, w4⟩ := id W
  cases w1.symm.trans A.1
  refine ⟨_, A.same W, (sz_set _ _ _).trans S, B, fun i hi => ?_⟩
  have hi' : i < c.slots.size := by rw [S]; exact hi
  unfold arrUpd
  by_cases hj : i = j
  · subst hj
    rw [if_pos rfl]
    exact ⟨by simp [Cell.setSlot, Array.getElem?_setIfInBounds, hi'], hv⟩
  · rw [if_neg hj]
    refine ⟨?_, (H i hi).2⟩
    rw [← (H i hi).1]
    simp [Cell.setSlot, Array.getElem?_setIfInBounds, Ne.symm hj]
theorem aputI {n0 : Nat} {j x : Int32} {g : JFrame} {rest : List Value} (X : Stand p l e R s m args below meth c T locs cells slots) (hx : p.tables.exec = Jvm.exec) (hZ : Z.Warmed39 s.vm) (eT : T.heap = h) (A : Ary Z h a .int n f) (N : Fr n0 locs) (ge : n0 ≤ a) (hj : ¬ j < 0) (hn : j.toNatClampNeg < n)
    (hg : g.method = m) (hs : g.stack = .int x :: .int j :: .ref a :: rest) (hd : decode c.code g.pc = .ok (.iastore, 1)) :
    ∃ T' h' L', Stand p l e R s m args below meth c T' L' cells slots ∧ T'.heap = h' ∧ Fr n0 L' ∧ Wr h h' a j.toNatClampNeg (.int x) ∧ Ary Z h' a .int n (arrUpd f j.toNatClampNeg x) ∧ ∀ target, Steps p.tables e below (T'.setTop { g with pc := g.pc + 1, stack := rest }) target → Steps p.tables e below (T.setTop g) target := by
  obtain ⟨cl, Ar, S, B, H⟩ := id A
  obtain ⟨T', h', X', e', W, st⟩ := stI X hx hZ eT Ar (j := j) (x := x) (by rw [S]; intro q; rcases q with q | q; exact hj q; omega) hg hs hd
  exact ⟨T', h', _, X', e', Fr.snoc X' N ge, W, A.set W rfl, st⟩
theorem aputB {n0 : Nat} {j x : Int32} {g : JFrame} {rest : List Value} (X : Stand p l e R s m args below meth c T locs cells slots) (hx : p.tables.exec = Jvm.exec) (hZ : Z.Warmed39 s.vm) (eT : T.heap = h) (A : Ary Z h a .byte n f) (N : Fr n0 locs) (ge : n0 ≤ a) (hj : ¬ j < 0) (hn : j.toNatClampNeg < n)
    (hg : g.method = m) (hs : g.stack = .int x :: .int j :: .ref a :: rest) (hd : decode c.code g.pc = .ok (.bastore, 1)) :
    ∃ T' h' L', Stand p l e R s m args below meth c T' L' cells slots ∧ T'.heap = h' ∧ Fr n0 L' ∧ Wr h h' a j.toNatClampNeg (.int x.toInt8.toInt32) ∧ Ary Z h' a .byte n (arrUpd f j.toNatClampNeg x.toInt8.toInt32) ∧ ∀ target, Steps p.tables e below (T'.setTop { g with pc := g.pc + 1, stack := rest }) target → Steps p.tables e below (T.setTop g) target := by
  obtain ⟨cl, Ar, S, B, H⟩ := id A
  obtain ⟨T', h', X', e', W, st⟩ := stB X hx hZ eT Ar (j := j) (x := x) (by rw [S]; intro q; rcases q with q | q; exact hj q; omega) hg hs hd
  exact ⟨T', h', _, X', e', Fr.snoc X' N ge, W, A.set W (fits_nar_byte x), st⟩
theorem agetI {j : Int32} {g : JFrame} {rest : List Value} (X : Stand p l e R s m args below meth c T locs cells slots) (hx : p.tables.exec = Jvm.exec) (hZ : Z.Warmed39 s.vm) (eT : T.heap = h) (A : Ary Z h a .int n f) (hj : ¬ j < 0) (hn : j.toNatClampNeg < n)
    (hg : g.method = m) (hs : g.stack = .int j :: .ref a :: rest) (hd : decode c.code g.pc = .ok (.iaload, 1)) (target : State) (k : Steps p.tables e below (T.setTop { g with pc := g.pc + 1, stack := .int (f j.toNatClampNeg) :: rest }) target) : Steps p.tables e below (T.setTop g) target := by
  obtain ⟨cl, Ar, S, B, H⟩ := A
  exact X.iaload hx (j := j) (v := .int (f j.toNatClampNeg)) (by rw [eT]; exact Ar.1) (State.isArrayOf_alike hZ.alike Ar.2.1) Ar.2.2 (by rw [S]; intro q; rcases q with q | q; exact hj q; omega) (H _ hn).1 hg hs hd target k
theorem agetB {j : Int32} {g : JFrame} {rest : List Value} (X : Stand p l e R s m args below meth c T locs cells slots) (hx : p.tables.exec = Jvm.exec) (hZ : Z.Warmed39 s.vm) (eT : T.heap = h) (A : Ary Z h a .byte n f) (hj : ¬ j < 0) (hn : j.toNatClampNeg < n)
    (hg : g.method = m) (hs : g.stack = .int j :: .ref a :: rest) (hd : decode c.code g.pc = .ok (.baload, 1)) (target : State) (k : Steps p.tables e below (T.setTop { g with pc := g.pc + 1, stack := .int (f j.toNatClampNeg) :: rest }) target) : Steps p.tables e below (T.setTop g) target := by
  obtain ⟨cl, Ar, S, B, H⟩ := A
  exact X.baloadBytes hx (j := j) (v := .int (f j.toNatClampNeg)) (by rw [eT]; exact Ar.1) (State.isArrayOf_alike hZ.alike Ar.2.1) Ar.2.2 (by rw [S]; intro q; rcases q with q | q; exact hj q; omega) (H _ hn).1 hg hs hd target k
theorem alen {g : JFrame} {rest : List Value} (X : Stand p l e R s m args below meth c T locs cells slots) (hx : p.tables.exec = Jvm.exec) (hZ : Z.Warmed39 s.vm) (eT : T.heap = h) (A : Ary Z h a ty n f)
    (hg : g.method = m) (hs : g.stack = .ref a :: rest) (hd : decode c.code g.pc = .ok (.arraylength, 1)) (target : State) (k : Steps p.tables e below (T.setTop { g with pc := g.pc + 1, stack := .int n.toInt32 :: rest }) target) : Steps p.tables e below (T.setTop g) target := by
  obtain ⟨cl, Ar, S, B, H⟩ := A
  exact X.arraylength hx (by rw [eT]; exact Ar.1) (State.isArrayOf_alike hZ.alike Ar.2.1) hg hs hd target (by rw [S]; exact k)
end Ary
end Jvm.RoadKit
namespace Jvm.Pilot.@@N@@
open Jvm Jvm.ClassFile Sem Op Lib Jvm.Free Jvm.Stand Jvm.LawKit Jvm.RoadKit Bundle Jvm.Pilot.@@N@@.Jvm.D

theorem pd0 : parseMethodDescriptor "(I)Z" = some ⟨[.int], some .boolean⟩ := by decide +kernel
theorem d1_0 : decode prog_16_method_2_code 0 = .ok (.iload_n 0, 1) := by decide +kernel
theorem d1_1 : decode prog_16_method_2_code 1 = .ok (.bipush 9, 2) := by decide +kernel
theorem d1_3 : decode prog_16_method_2_code 3 = .ok (.if_icmp .eq 51, 3) := by decide +kernel
theorem d1_6 : decode prog_16_method_2_code 6 = .ok (.iload_n 0, 1) := by decide +kernel
theorem d1_7 : decode prog_16_method_2_code 7 = .ok (.bipush 10, 2) := by decide +kernel
theorem d1_9 : decode prog_16_method_2_code 9 = .ok (.if_icmp .eq 45, 3) := by decide +kernel
theorem d1_12 : decode prog_16_method_2_code 12 = .ok (.iload_n 0, 1) := by decide +kernel
theorem d1_13 : decode prog_16_method_2_code 13 = .ok (.bipush 13, 2) := by decide +kernel
theorem d1_15 : decode prog_16_method_2_code 15 = .ok (.if_icmp .eq 39, 3) := by decide +kernel
theorem d1_18 : decode prog_16_method_2_code 18 = .ok (.iload_n 0, 1) := by decide +kernel
theorem d1_19 : decode prog_16_method_2_code 19 = .ok (.bipush 32, 2) := by decide +kernel
theorem d1_21 : decode prog_16_method_2_code 21 = .ok (.if_icmp .lt 9, 3) := by decide +kernel
theorem d1_24 : decode prog_16_method_2_code 24 = .ok (.iload_n 0, 1) := by decide +kernel
theorem d1_25 : decode prog_16_method_2_code 25 = .ok (.ldc 7, 2) := by decide +kernel
theorem d1_27 : decode prog_16_method_2_code 27 = .ok (.if_icmp .le 27, 3) := by decide +kernel
theorem d1_30 : decode prog_16_method_2_code 30 = .ok (.iload_n 0, 1) := by decide +kernel
theorem d1_31 : decode prog_16_method_2_code 31 = .ok (.ldc 8, 2) := by decide +kernel
theorem d1_33 : decode prog_16_method_2_code 33 = .ok (.if_icmp .lt 9, 3) := by decide +kernel
theorem d1_36 : decode prog_16_method_2_code 36 = .ok (.iload_n 0, 1) := by decide +kernel
theorem d1_37 : decode prog_16_method_2_code 37 = .ok (.ldc 9, 2) := by decide +kernel
theorem d1_39 : decode prog_16_method_2_code 39 = .ok (.if_icmp .le 15, 3) := by decide +kernel
theorem d1_42 : decode prog_16_method_2_code 42 = .ok (.iload_n 0, 1) := by decide +kernel
theorem d1_43 : decode prog_16_method_2_code 43 = .ok (.ldc 10, 2) := by decide +kernel
theorem d1_45 : decode prog_16_method_2_code 45 = .ok (.if_icmp .lt 13, 3) := by decide +kernel
theorem d1_48 : decode prog_16_method_2_code 48 = .ok (.iload_n 0, 1) := by decide +kernel
theorem d1_49 : decode prog_16_method_2_code 49 = .ok (.ldc 11, 2) := by decide +kernel
theorem d1_51 : decode prog_16_method_2_code 51 = .ok (.if_icmp .gt 7, 3) := by decide +kernel
theorem d1_54 : decode prog_16_method_2_code 54 = .ok (.iconst 1, 1) := by decide +kernel
theorem d1_55 : decode prog_16_method_2_code 55 = .ok (.goto 4, 3) := by decide +kernel
theorem d1_58 : decode prog_16_method_2_code 58 = .ok (.iconst 0, 1) := by decide +kernel
theorem d1_59 : decode prog_16_method_2_code 59 = .ok (.ireturn, 1) := by decide +kernel
theorem pn_1 : plainName "com/example/shelfmark/shelfmark/text/XmlChars" = true := by first | (simp [plainName, overriddenIn]; done) | decide +kernel
theorem ef_1 (m : MethodId) (x0 : Int32) : entryFrame m #[(.int x0)] 1 = mkF m 0 #[.val (.int x0)] [] := by first | (simp [entryFrame, mkF, argsToLocals, Value.category]; done) | rfl
def F1_58 (x : Int32) : Int32 := (0 : Int32)
def F1_54 (x : Int32) : Int32 := (1 : Int32)
def F1_48 (x : Int32) : Int32 := if (1114111 : Int32) < x then F1_58 x else F1_54 x
def F1_42 (x : Int32) : Int32 := if x < (65536 : Int32) then F1_58 x else F1_48 x
def F1_36 (x : Int32) : Int32 := if (65533 : Int32) < x then F1_42 x else F1_54 x
def F1_30 (x : Int32) : Int32 := if x < (57344 : Int32) then F1_42 x else F1_36 x
def F1_24 (x : Int32) : Int32 := if (55295 : Int32) < x then F1_30 x else F1_54 x
def F1_18 (x : Int32) : Int32 := if x < (32 : Int32) then F1_30 x else F1_24 x
def F1_12 (x : Int32) : Int32 := if x = (13 : Int32) then F1_54 x else F1_18 x
def F1_6 (x : Int32) : Int32 := if x = (10 : Int32) then F1_54 x else F1_12 x
def F1_0 (x : Int32) : Int32 := if x = (9 : Int32) then F1_54 x else F1_6 x
def Q1 (Z : State) (x : Int32) (h0 : Heap) (n0 : Nat) (v_ : Option Value) (h_ : Heap) (L_ : List Loc) : Prop := v_ = some (.int (F1_0 x)) ∧ Fr n0 L_ ∧ h_ = h0
set_option maxRecDepth 65536 in
set_option maxHeartbeats 40000000 in
theorem rm1 (l : Launch) (Z : State) (a0 : Array Value) (hw : ∀ d ∈ tables_1, d.before a0 Z = true) (ws : List Jvm.Cond) (x : Int32) (h0 : Heap) (n0 : Nat) (Z0 : n0 ≤ h0.size) :
    MetFree l (⟨"com/example/shelfmark/shelfmark/text/XmlChars", "isChar", "(I)Z"⟩ : MethodName) (head1 (Jvm.Cond.code (⟨"com/example/shelfmark/shelfmark/text/XmlChars", "isChar", "(I)Z"⟩ : MethodName) prog_16_method_2_code 1 (some .boolean) :: ws) ({ frames := 0, cells := 0, slots := 0, locals := 0 } : Room)) (fun a_ U_ => a_ = #[(.int x)] ∧ Z.Warmed39 U_.vm ∧ U_.heap = h0) (fun _ _ _ _ _ => True) (fun _ U_ o_ V_ => ∃ v_ L_, o_ = .returned v_ ∧ Q1 Z x h0 n0 v_ V_.heap L_ ∧ FrameEnd U_ o_ V_ L_ ({ frames := 0, cells := 0, slots := 0, locals := 0 } : Room).cells ({ frames := 0, cells := 0, slots := 0, locals := 0 } : Room).slots) := by
  refine MetFree.of_bodySF (plainFor_of_name pn_1) hisR ?_
  intro p e s m args below meth c s₁ Bd hml0 hP hK
  obtain ⟨rfl, hZ, hh⟩ := hP
  have hx := Bd.exec
  have hby := Bd.bytes
  have hml : c.maxLocals = 1 := hml0
  have hown : s.vm.findClass "com/example/shelfmark/shelfmark/text/XmlChars" = some m.cls := findClass_of_methodNamed Bd.named
  have hnm := (name_of_methodNamed Bd.named Bd.method).1
  have hlk : meth.locks = false := BodyLoose.notSynchronized Bd
  have hrt := Bd.returns
  have X0 : Stand p l e ({ frames := 0, cells := 0, slots := 0, locals := 0 } : Room) s m #[(.int x)] below meth c s₁ [] 0 0 := Stand.of_body Bd
  have e0 : s₁.heap = h0 := by rw [← hh, Bd.state]; rfl
  have N0 := Fr.nil n0
  show Go p.tables e below (PQ s below (Q1 Z x h0 n0) 0 0) _
  have t58 : Go p.tables e below (PQ s below (fun v_ h_ L_ => v_ = some (.int (F1_58 x)) ∧ Fr n0 L_ ∧ h_ = h0) 0 0) (s₁.setTop (mkF m 58 #[.val (.int x)] [])) := by
    refine Go.via (B := s₁.setTop (mkF m 59 #[.val (.int x)] [(.int (0 : Int32))])) (fun t_ k_ => ?_) ?_
    · show Steps p.tables e below (s₁.setTop (mkF m 58 #[.val (.int x)] [])) t_
      refine XS.iconst X0.here hx rfl (hb hby d1_58) ?_
      show Steps p.tables e below (s₁.setTop (mkF m 59 #[.val (.int x)] [(.int (0 : Int32))])) t_
      exact k_
    exact Go.leave X0 hlk (v := (some (.int (0 : Int32)))) (fun h => by rw [hrt] at h; cases h) (fun fs hr => retN X0 hx (t := .boolean) hrt (by simp) (hb hby d1_59) hr) (by decide) (by decide) (⟨rfl, N0, e0⟩)
  have t54 : Go p.tables e below (PQ s below (fun v_ h_ L_ => v_ = some (.int (F1_54 x)) ∧ Fr n0 L_ ∧ h_ = h0) 0 0) (s₁.setTop (mkF m 54 #[.val (.int x)] [])) := by
    refine Go.via (B := s₁.setTop (mkF m 59 #[.val (.int x)] [(.int (1 : Int32))])) (fun t_ k_ => ?_) ?_
    · show Steps p.tables e below (s₁.setTop (mkF m 54 #[.val (.int x)] [])) t_
      refine XS.iconst X0.here hx rfl (hb hby d1_54) ?_
      show Steps p.tables e below (s₁.setTop (mkF m 55 #[.val (.int x)] [(.int (1 : Int32))])) t_
      refine XS.goto X0.here hx rfl (pc0 := 55) (pc' := 59) rfl (hb hby d1_55) (by decide) (by decide) ?_
      show Steps p.tables e below (s₁.setTop (mkF m 59 #[.val (.int x)] [(.int (1 : Int32))])) t_
      exact k_
    exact Go.leave X0 hlk (v := (some (.int (1 : Int32)))) (fun h => by rw [hrt] at h; cases h) (fun fs hr => retN X0 hx (t := .boolean) hrt (by simp) (hb hby d1_59) hr) (by decide) (by decide) (⟨rfl, N0, e0⟩)
  have t48 : Go p.tables e below (PQ s below (fun v_ h_ L_ => v_ = some (.int (F1_48 x)) ∧ Fr n0 L_ ∧ h_ = h0) 0 0) (s₁.setTop (mkF m 48 #[.val (.int x)] [])) := by
    refine Go.via (B := s₁.setTop (mkF m 51 #[.val (.int x)] [(.int (1114111 : Int32)), (.int x)])) (fun t_ k_ => ?_) ?_
    · show Steps p.tables e below (s₁.setTop (mkF m 48 #[.val (.int x)] [])) t_
      refine XS.iloadN X0.here hx rfl (hb hby d1_48) rfl ?_
      show Steps p.tables e below (s₁.setTop (mkF m 49 #[.val (.int x)] [(.int x)])) t_
      refine X0.ldcInt hx hown (mvT hZ (hw _ (List.mem_of_getElem? (i := 25) rfl))) (g := (mkF m 49 #[.val (.int x)] [(.int x)])) rfl (hb hby d1_49) _ ?_
      show Steps p.tables e below (s₁.setTop (mkF m 51 #[.val (.int x)] [(.int (1114111 : Int32)), (.int x)])) t_
      exact k_
    by_cases hc51 : (1114111 : Int32) < x
    · rw [show F1_48 x = F1_58 x from if_pos hc51]
      refine Go.via (B := s₁.setTop (mkF m 58 #[.val (.int x)] [])) (fun t_ k_ => XS.icmpYes X0.here hx rfl (pc0 := 51) (pc' := 58) rfl (hb hby d1_51) rfl ((tlt hc51).2.2.1) (by decide) (by decide) k_) ?_
      exact t58
    · rw [show F1_48 x = F1_54 x from if_neg hc51]
      refine Go.via (B := s₁.setTop (mkF m 54 #[.val (.int x)] [])) (fun t_ k_ => XS.icmpNo X0.here hx rfl (hb hby d1_51) rfl ((flt hc51).2.2.1) k_) ?_
      exact t54
  have t42 : Go p.tables e below (PQ s below (fun v_ h_ L_ => v_ = some (.int (F1_42 x)) ∧ Fr n0 L_ ∧ h_ = h0) 0 0) (s₁.setTop (mkF m 42 #[.val (.int x)] [])) := by
    refine Go.via (B := s₁.setTop (mkF m 45 #[.val (.int x)] [(.int (65536 : Int32)), (.int x)])) (fun t_ k_ => ?_) ?_
    · show Steps p.tables e below (s₁.setTop (mkF m 42 #[.val (.int x)] [])) t_
      refine XS.iloadN X0.here hx rfl (hb hby d1_42) rfl ?_
      show Steps p.tables e below (s₁.setTop (mkF m 43 #[.val (.int x)] [(.int x)])) t_
      refine X0.ldcInt hx hown (mvT hZ (hw _ (List.mem_of_getElem? (i := 17) rfl))) (g := (mkF m 43 #[.val (.int x)] [(.int x)])) rfl (hb hby d1_43) _ ?_
      show Steps p.tables e below (s₁.setTop (mkF m 45 #[.val (.int x)] [(.int (65536 : Int32)), (.int x)])) t_
      exact k_
    by_cases hc45 : x < (65536 : Int32)
    · rw [show F1_42 x = F1_58 x from if_pos hc45]
      refine Go.via (B := s₁.setTop (mkF m 58 #[.val (.int x)] [])) (fun t_ k_ => XS.icmpYes X0.here hx rfl (pc0 := 45) (pc' := 58) rfl (hb hby d1_45) rfl ((tlt hc45).1) (by decide) (by decide) k_) ?_
      exact t58
    · rw [show F1_42 x = F1_48 x from if_neg hc45]
      refine Go.via (B := s₁.setTop (mkF m 48 #[.val (.int x)] [])) (fun t_ k_ => XS.icmpNo X0.here hx rfl (hb hby d1_45) rfl ((flt hc45).1) k_) ?_
      exact t48
  have t36 : Go p.tables e below (PQ s below (fun v_ h_ L_ => v_ = some (.int (F1_36 x)) ∧ Fr n0 L_ ∧ h_ = h0) 0 0) (s₁.setTop (mkF m 36 #[.val (.int x)] [])) := by
    refine Go.via (B := s₁.setTop (mkF m 39 #[.val (.int x)] [(.int (65533 : Int32)), (.int x)])) (fun t_ k_ => ?_) ?_
    · show Steps p.tables e below (s₁.setTop (mkF m 36 #[.val (.int x)] [])) t_
      refine XS.iloadN X0.here hx rfl (hb hby d1_36) rfl ?_
      show Steps p.tables e below (s₁.setTop (mkF m 37 #[.val (.int x)] [(.int x)])) t_
      refine X0.ldcInt hx hown (mvT hZ (hw _ (List.mem_of_getElem? (i := 24) rfl))) (g := (mkF m 37 #[.val (.int x)] [(.int x)])) rfl (hb hby d1_37) _ ?_
      show Steps p.tables e below (s₁.setTop (mkF m 39 #[.val (.int x)] [(.int (65533 : Int32)), (.int x)])) t_
      exact k_
    by_cases hc39 : (65533 : Int32) < x
    · rw [show F1_36 x = F1_42 x from if_pos hc39]
      refine Go.via (B := s₁.setTop (mkF m 42 #[.val (.int x)] [])) (fun t_ k_ => XS.icmpNo X0.here hx rfl (hb hby d1_39) rfl ((tlt hc39).2.2.2) k_) ?_
      exact t42
    · rw [show F1_36 x = F1_54 x from if_neg hc39]
      refine Go.via (B := s₁.setTop (mkF m 54 #[.val (.int x)] [])) (fun t_ k_ => XS.icmpYes X0.here hx rfl (pc0 := 39) (pc' := 54) rfl (hb hby d1_39) rfl ((flt hc39).2.2.2) (by decide) (by decide) k_) ?_
      exact t54
  have t30 : Go p.tables e below (PQ s below (fun v_ h_ L_ => v_ = some (.int (F1_30 x)) ∧ Fr n0 L_ ∧ h_ = h0) 0 0) (s₁.setTop (mkF m 30 #[.val (.int x)] [])) := by
    refine Go.via (B := s₁.setTop (mkF m 33 #[.val (.int x)] [(.int (57344 : Int32)), (.int x)])) (fun t_ k_ => ?_) ?_
    · show Steps p.tables e below (s₁.setTop (mkF m 30 #[.val (.int x)] [])) t_
      refine XS.iloadN X0.here hx rfl (hb hby d1_30) rfl ?_
      show Steps p.tables e below (s₁.setTop (mkF m 31 #[.val (.int x)] [(.int x)])) t_
      refine X0.ldcInt hx hown (mvT hZ (hw _ (List.mem_of_getElem? (i := 16) rfl))) (g := (mkF m 31 #[.val (.int x)] [(.int x)])) rfl (hb hby d1_31) _ ?_
      show Steps p.tables e below (s₁.setTop (mkF m 33 #[.val (.int x)] [(.int (57344 : Int32)), (.int x)])) t_
      exact k_
    by_cases hc33 : x < (57344 : Int32)
    · rw [show F1_30 x = F1_42 x from if_pos hc33]
      refine Go.via (B := s₁.setTop (mkF m 42 #[.val (.int x)] [])) (fun t_ k_ => XS.icmpYes X0.here hx rfl (pc0 := 33) (pc' := 42) rfl (hb hby d1_33) rfl ((tlt hc33).1) (by decide) (by decide) k_) ?_
      exact t42
    · rw [show F1_30 x = F1_36 x from if_neg hc33]
      refine Go.via (B := s₁.setTop (mkF m 36 #[.val (.int x)] [])) (fun t_ k_ => XS.icmpNo X0.here hx rfl (hb hby d1_33) rfl ((flt hc33).1) k_) ?_
      exact t36
  have t24 : Go p.tables e below (PQ s below (fun v_ h_ L_ => v_ = some (.int (F1_24 x)) ∧ Fr n0 L_ ∧ h_ = h0) 0 0) (s₁.setTop (mkF m 24 #[.val (.int x)] [])) := by
    refine Go.via (B := s₁.setTop (mkF m 27 #[.val (.int x)] [(.int (55295 : Int32)), (.int x)])) (fun t_ k_ => ?_) ?_
    · show Steps p.tables e below (s₁.setTop (mkF m 24 #[.val (.int x)] [])) t_
      refine XS.iloadN X0.here hx rfl (hb hby d1_24) rfl ?_
      show Steps p.tables e below (s₁.setTop (mkF m 25 #[.val (.int x)] [(.int x)])) t_
      refine X0.ldcInt hx hown (mvT hZ (hw _ (List.mem_of_getElem? (i := 22) rfl))) (g := (mkF m 25 #[.val (.int x)] [(.int x)])) rfl (hb hby d1_25) _ ?_
      show Steps p.tables e below (s₁.setTop (mkF m 27 #[.val (.int x)] [(.int (55295 : Int32)), (.int x)])) t_
      exact k_
    by_cases hc27 : (55295 : Int32) < x
    · rw [show F1_24 x = F1_30 x from if_pos hc27]
      refine Go.via (B := s₁.setTop (mkF m 30 #[.val (.int x)] [])) (fun t_ k_ => XS.icmpNo X0.here hx rfl (hb hby d1_27) rfl ((tlt hc27).2.2.2) k_) ?_
      exact t30
    · rw [show F1_24 x = F1_54 x from if_neg hc27]
      refine Go.via (B := s₁.setTop (mkF m 54 #[.val (.int x)] [])) (fun t_ k_ => XS.icmpYes X0.here hx rfl (pc0 := 27) (pc' := 54) rfl (hb hby d1_27) rfl ((flt hc27).2.2.2) (by decide) (by decide) k_) ?_
      exact t54
  have t18 : Go p.tables e below (PQ s below (fun v_ h_ L_ => v_ = some (.int (F1_18 x)) ∧ Fr n0 L_ ∧ h_ = h0) 0 0) (s₁.setTop (mkF m 18 #[.val (.int x)] [])) := by
    refine Go.via (B := s₁.setTop (mkF m 21 #[.val (.int x)] [(.int (32 : Int32)), (.int x)])) (fun t_ k_ => ?_) ?_
    · show Steps p.tables e below (s₁.setTop (mkF m 18 #[.val (.int x)] [])) t_
      refine XS.iloadN X0.here hx rfl (hb hby d1_18) rfl ?_
      show Steps p.tables e below (s₁.setTop (mkF m 19 #[.val (.int x)] [(.int x)])) t_
      refine XS.bipush X0.here hx rfl (hb hby d1_19) ?_
      show Steps p.tables e below (s₁.setTop (mkF m 21 #[.val (.int x)] [(.int (32 : Int32)), (.int x)])) t_
      exact k_
    by_cases hc21 : x < (32 : Int32)
    · rw [show F1_18 x = F1_30 x from if_pos hc21]
      refine Go.via (B := s₁.setTop (mkF m 30 #[.val (.int x)] [])) (fun t_ k_ => XS.icmpYes X0.here hx rfl (pc0 := 21) (pc' := 30) rfl (hb hby d1_21) rfl ((tlt hc21).1) (by decide) (by decide) k_) ?_
      exact t30
    · rw [show F1_18 x = F1_24 x from if_neg hc21]
      refine Go.via (B := s₁.setTop (mkF m 24 #[.val (.int x)] [])) (fun t_ k_ => XS.icmpNo X0.here hx rfl (hb hby d1_21) rfl ((flt hc21).1) k_) ?_
      exact t24
  have t12 : Go p.tables e below (PQ s below (fun v_ h_ L_ => v_ = some (.int (F1_12 x)) ∧ Fr n0 L_ ∧ h_ = h0) 0 0) (s₁.setTop (mkF m 12 #[.val (.int x)] [])) := by
    refine Go.via (B := s₁.setTop (mkF m 15 #[.val (.int x)] [(.int (13 : Int32)), (.int x)])) (fun t_ k_ => ?_) ?_
    · show Steps p.tables e below (s₁.setTop (mkF m 12 #[.val (.int x)] [])) t_
      refine XS.iloadN X0.here hx rfl (hb hby d1_12) rfl ?_
      show Steps p.tables e below (s₁.setTop (mkF m 13 #[.val (.int x)] [(.int x)])) t_
      refine XS.bipush X0.here hx rfl (hb hby d1_13) ?_
      show Steps p.tables e below (s₁.setTop (mkF m 15 #[.val (.int x)] [(.int (13 : Int32)), (.int x)])) t_
      exact k_
    by_cases hc15 : x = (13 : Int32)
    · rw [show F1_12 x = F1_54 x from if_pos hc15]
      refine Go.via (B := s₁.setTop (mkF m 54 #[.val (.int x)] [])) (fun t_ k_ => XS.icmpYes X0.here hx rfl (pc0 := 15) (pc' := 54) rfl (hb hby d1_15) rfl ((teq hc15).1) (by decide) (by decide) k_) ?_
      exact t54
    · rw [show F1_12 x = F1_18 x from if_neg hc15]
      refine Go.via (B := s₁.setTop (mkF m 18 #[.val (.int x)] [])) (fun t_ k_ => XS.icmpNo X0.here hx rfl (hb hby d1_15) rfl ((feq hc15).1) k_) ?_
      exact t18
  have t6 : Go p.tables e below (PQ s below (fun v_ h_ L_ => v_ = some (.int (F1_6 x)) ∧ Fr n0 L_ ∧ h_ = h0) 0 0) (s₁.setTop (mkF m 6 #[.val (.int x)] [])) := by
    refine Go.via (B := s₁.setTop (mkF m 9 #[.val (.int x)] [(.int (10 : Int32)), (.int x)])) (fun t_ k_ => ?_) ?_
    · show Steps p.tables e below (s₁.setTop (mkF m 6 #[.val (.int x)] [])) t_
      refine XS.iloadN X0.here hx rfl (hb hby d1_6) rfl ?_
      show Steps p.tables e below (s₁.setTop (mkF m 7 #[.val (.int x)] [(.int x)])) t_
      refine XS.bipush X0.here hx rfl (hb hby d1_7) ?_
      show Steps p.tables e below (s₁.setTop (mkF m 9 #[.val (.int x)] [(.int (10 : Int32)), (.int x)])) t_
      exact k_
    by_cases hc9 : x = (10 : Int32)
    · rw [show F1_6 x = F1_54 x from if_pos hc9]
      refine Go.via (B := s₁.setTop (mkF m 54 #[.val (.int x)] [])) (fun t_ k_ => XS.icmpYes X0.here hx rfl (pc0 := 9) (pc' := 54) rfl (hb hby d1_9) rfl ((teq hc9).1) (by decide) (by decide) k_) ?_
      exact t54
    · rw [show F1_6 x = F1_12 x from if_neg hc9]
      refine Go.via (B := s₁.setTop (mkF m 12 #[.val (.int x)] [])) (fun t_ k_ => XS.icmpNo X0.here hx rfl (hb hby d1_9) rfl ((feq hc9).1) k_) ?_
      exact t12
  have t0 : Go p.tables e below (PQ s below (fun v_ h_ L_ => v_ = some (.int (F1_0 x)) ∧ Fr n0 L_ ∧ h_ = h0) 0 0) (s₁.setTop (mkF m 0 #[.val (.int x)] [])) := by
    refine Go.via (B := s₁.setTop (mkF m 3 #[.val (.int x)] [(.int (9 : Int32)), (.int x)])) (fun t_ k_ => ?_) ?_
    · show Steps p.tables e below (s₁.setTop (mkF m 0 #[.val (.int x)] [])) t_
      refine XS.iloadN X0.here hx rfl (hb hby d1_0) rfl ?_
      show Steps p.tables e below (s₁.setTop (mkF m 1 #[.val (.int x)] [(.int x)])) t_
      refine XS.bipush X0.here hx rfl (hb hby d1_1) ?_
      show Steps p.tables e below (s₁.setTop (mkF m 3 #[.val (.int x)] [(.int (9 : Int32)), (.int x)])) t_
      exact k_
    by_cases hc3 : x = (9 : Int32)
    · rw [show F1_0 x = F1_54 x from if_pos hc3]
      refine Go.via (B := s₁.setTop (mkF m 54 #[.val (.int x)] [])) (fun t_ k_ => XS.icmpYes X0.here hx rfl (pc0 := 3) (pc' := 54) rfl (hb hby d1_3) rfl ((teq hc3).1) (by decide) (by decide) k_) ?_
      exact t54
    · rw [show F1_0 x = F1_6 x from if_neg hc3]
      refine Go.via (B := s₁.setTop (mkF m 6 #[.val (.int x)] [])) (fun t_ k_ => XS.icmpNo X0.here hx rfl (hb hby d1_3) rfl ((feq hc3).1) k_) ?_
      exact t6
  refine Go.via (B := s₁.setTop (mkF m 0 #[.val (.int x)] [])) (fun t_ k_ => castTop (ef_1 m x) k_) ?_
  exact t0
theorem d2_0 : decode method_2_code 0 = .ok (.iload_n 0, 1) := by decide +kernel
theorem d2_1 : decode method_2_code 1 = .ok (.bipush 32, 2) := by decide +kernel
theorem d2_3 : decode method_2_code 3 = .ok (.if_icmp .ge 27, 3) := by decide +kernel
theorem d2_6 : decode method_2_code 6 = .ok (.iload_n 0, 1) := by decide +kernel
theorem d2_7 : decode method_2_code 7 = .ok (.bipush 9, 2) := by decide +kernel
theorem d2_9 : decode method_2_code 9 = .ok (.if_icmp .eq 15, 3) := by decide +kernel
theorem d2_12 : decode method_2_code 12 = .ok (.iload_n 0, 1) := by decide +kernel
theorem d2_13 : decode method_2_code 13 = .ok (.bipush 10, 2) := by decide +kernel
theorem d2_15 : decode method_2_code 15 = .ok (.if_icmp .eq 9, 3) := by decide +kernel
theorem d2_18 : decode method_2_code 18 = .ok (.iload_n 0, 1) := by decide +kernel
theorem d2_19 : decode method_2_code 19 = .ok (.bipush 13, 2) := by decide +kernel
theorem d2_21 : decode method_2_code 21 = .ok (.if_icmp .ne 7, 3) := by decide +kernel
theorem d2_24 : decode method_2_code 24 = .ok (.iconst 1, 1) := by decide +kernel
theorem d2_25 : decode method_2_code 25 = .ok (.goto 4, 3) := by decide +kernel
theorem d2_28 : decode method_2_code 28 = .ok (.iconst 0, 1) := by decide +kernel
theorem d2_29 : decode method_2_code 29 = .ok (.ireturn, 1) := by decide +kernel
theorem d2_30 : decode method_2_code 30 = .ok (.iload_n 0, 1) := by decide +kernel
theorem d2_31 : decode method_2_code 31 = .ok (.ldc 7, 2) := by decide +kernel
theorem d2_33 : decode method_2_code 33 = .ok (.if_icmp .lt 11, 3) := by decide +kernel
theorem d2_36 : decode method_2_code 36 = .ok (.iload_n 0, 1) := by decide +kernel
theorem d2_37 : decode method_2_code 37 = .ok (.ldc 8, 2) := by decide +kernel
theorem d2_39 : decode method_2_code 39 = .ok (.if_icmp .gt 5, 3) := by decide +kernel
theorem d2_42 : decode method_2_code 42 = .ok (.iconst 0, 1) := by decide +kernel
theorem d2_43 : decode method_2_code 43 = .ok (.ireturn, 1) := by decide +kernel
theorem d2_44 : decode method_2_code 44 = .ok (.iload_n 0, 1) := by decide +kernel
theorem d2_45 : decode method_2_code 45 = .ok (.ldc 9, 2) := by decide +kernel
theorem d2_47 : decode method_2_code 47 = .ok (.if_icmp .eq 9, 3) := by decide +kernel
theorem d2_50 : decode method_2_code 50 = .ok (.iload_n 0, 1) := by decide +kernel
theorem d2_51 : decode method_2_code 51 = .ok (.ldc 10, 2) := by decide +kernel
theorem d2_53 : decode method_2_code 53 = .ok (.if_icmp .ne 5, 3) := by decide +kernel
theorem d2_56 : decode method_2_code 56 = .ok (.iconst 0, 1) := by decide +kernel
theorem d2_57 : decode method_2_code 57 = .ok (.ireturn, 1) := by decide +kernel
theorem d2_58 : decode method_2_code 58 = .ok (.iload_n 0, 1) := by decide +kernel
theorem d2_59 : decode method_2_code 59 = .ok (.ldc 11, 2) := by decide +kernel
theorem d2_61 : decode method_2_code 61 = .ok (.if_icmp .gt 7, 3) := by decide +kernel
theorem d2_64 : decode method_2_code 64 = .ok (.iconst 1, 1) := by decide +kernel
theorem d2_65 : decode method_2_code 65 = .ok (.goto 4, 3) := by decide +kernel
theorem d2_68 : decode method_2_code 68 = .ok (.iconst 0, 1) := by decide +kernel
theorem d2_69 : decode method_2_code 69 = .ok (.ireturn, 1) := by decide +kernel
theorem pn_2 : plainName "com/example/shelfmark/shelfmark/text/XmlCharsIsCharPinLaw" = true := by first | (simp [plainName, overriddenIn]; done) | decide +kernel
theorem ef_2 (m : MethodId) (x0 : Int32) : entryFrame m #[(.int x0)] 1 = mkF m 0 #[.val (.int x0)] [] := by first | (simp [entryFrame, mkF, argsToLocals, Value.category]; done) | rfl
def F2_68 (x : Int32) : Int32 := (0 : Int32)
def F2_64 (x : Int32) : Int32 := (1 : Int32)
def F2_58 (x : Int32) : Int32 := if (1114111 : Int32) < x then F2_68 x else F2_64 x
def F2_56 (x : Int32) : Int32 := (0 : Int32)
def F2_50 (x : Int32) : Int32 := if x = (65535 : Int32) then F2_56 x else F2_58 x
def F2_44 (x : Int32) : Int32 := if x = (65534 : Int32) then F2_56 x else F2_50 x
def F2_42 (x : Int32) : Int32 := (0 : Int32)
def F2_36 (x : Int32) : Int32 := if (57343 : Int32) < x then F2_44 x else F2_42 x
def F2_30 (x : Int32) : Int32 := if x < (55296 : Int32) then F2_44 x else F2_36 x
def F2_28 (x : Int32) : Int32 := (0 : Int32)
def F2_24 (x : Int32) : Int32 := (1 : Int32)
def F2_18 (x : Int32) : Int32 := if x = (13 : Int32) then F2_24 x else F2_28 x
def F2_12 (x : Int32) : Int32 := if x = (10 : Int32) then F2_24 x else F2_18 x
def F2_6 (x : Int32) : Int32 := if x = (9 : Int32) then F2_24 x else F2_12 x
def F2_0 (x : Int32) : Int32 := if x < (32 : Int32) then F2_6 x else F2_30 x
def Q2 (Z : State) (x : Int32) (h0 : Heap) (n0 : Nat) (v_ : Option Value) (h_ : Heap) (L_ : List Loc) : Prop := v_ = some (.int (F2_0 x)) ∧ Fr n0 L_ ∧ h_ = h0
set_option maxRecDepth 65536 in
set_option maxHeartbeats 40000000 in
theorem rm2 (l : Launch) (Z : State) (a0 : Array Value) (hw : ∀ d ∈ tables_1, d.before a0 Z = true) (ws : List Jvm.Cond) (x : Int32) (h0 : Heap) (n0 : Nat) (Z0 : n0 ≤ h0.size) :
    MetFree l (⟨"com/example/shelfmark/shelfmark/text/XmlCharsIsCharPinLaw", "ref", "(I)Z"⟩ : MethodName) (head1 (Jvm.Cond.code (⟨"com/example/shelfmark/shelfmark/text/XmlCharsIsCharPinLaw", "ref", "(I)Z"⟩ : MethodName) method_2_code 1 (some .boolean) :: ws) ({ frames := 0, cells := 0, slots := 0, locals := 0 } : Room)) (fun a_ U_ => a_ = #[(.int x)] ∧ Z.Warmed39 U_.vm ∧ U_.heap = h0) (fun _ _ _ _ _ => True) (fun _ U_ o_ V_ => ∃ v_ L_, o_ = .returned v_ ∧ Q2 Z x h0 n0 v_ V_.heap L_ ∧ FrameEnd U_ o_ V_ L_ ({ frames := 0, cells := 0, slots := 0, locals := 0 } : Room).cells ({ frames := 0, cells := 0, slots := 0, locals := 0 } : Room).slots) := by
  refine MetFree.of_bodySF (plainFor_of_name pn_2) hisR ?_
  intro p e s m args below meth c s₁ Bd hml0 hP hK
  obtain ⟨rfl, hZ, hh⟩ := hP
  have hx := Bd.exec
  have hby := Bd.bytes
  have hml : c.maxLocals = 1 := hml0
  have hown : s.vm.findClass "com/example/shelfmark/shelfmark/text/XmlCharsIsCharPinLaw" = some m.cls := findClass_of_methodNamed Bd.named
  have hnm := (name_of_methodNamed Bd.named Bd.method).1
  have hlk : meth.locks = false := BodyLoose.notSynchronized Bd
  have hrt := Bd.returns
  have X0 : Stand p l e ({ frames := 0, cells := 0, slots := 0, locals := 0 } : Room) s m #[(.int x)] below meth c s₁ [] 0 0 := Stand.of_body Bd
  have e0 : s₁.heap = h0 := by rw [← hh, Bd.state]; rfl
  have N0 := Fr.nil n0
  show Go p.tables e below (PQ s below (Q2 Z x h0 n0) 0 0) _
  have t68 : Go p.tables e below (PQ s below (fun v_ h_ L_ => v_ = some (.int (F2_68 x)) ∧ Fr n0 L_ ∧ h_ = h0) 0 0) (s₁.setTop (mkF m 68 #[.val (.int x)] [])) := by
    refine Go.via (B := s₁.setTop (mkF m 69 #[.val (.int x)] [(.int (0 : Int32))])) (fun t_ k_ => ?_) ?_
    · show Steps p.tables e below (s₁.setTop (mkF m 68 #[.val (.int x)] [])) t_
      refine XS.iconst X0.here hx rfl (hb hby d2_68) ?_
      show Steps p.tables e below (s₁.setTop (mkF m 69 #[.val (.int x)] [(.int (0 : Int32))])) t_
      exact k_
    exact Go.leave X0 hlk (v := (some (.int (0 : Int32)))) (fun h => by rw [hrt] at h; cases h) (fun fs hr => retN X0 hx (t := .boolean) hrt (by simp) (hb hby d2_69) hr) (by decide) (by decide) (⟨rfl, N0, e0⟩)
  have t64 : Go p.tables e below (PQ s below (fun v_ h_ L_ => v_ = some (.int (F2_64 x)) ∧ Fr n0 L_ ∧ h_ = h0) 0 0) (s₁.setTop (mkF m 64 #[.val (.int x)] [])) := by
    refine Go.via (B := s₁.setTop (mkF m 69 #[.val (.int x)] [(.int (1 : Int32))])) (fun t_ k_ => ?_) ?_
    · show Steps p.tables e below (s₁.setTop (mkF m 64 #[.val (.int x)] [])) t_
      refine XS.iconst X0.here hx rfl (hb hby d2_64) ?_
      show Steps p.tables e below (s₁.setTop (mkF m 65 #[.val (.int x)] [(.int (1 : Int32))])) t_
      refine XS.goto X0.here hx rfl (pc0 := 65) (pc' := 69) rfl (hb hby d2_65) (by decide) (by decide) ?_
      show Steps p.tables e below (s₁.setTop (mkF m 69 #[.val (.int x)] [(.int (1 : Int32))])) t_
      exact k_
    exact Go.leave X0 hlk (v := (some (.int (1 : Int32)))) (fun h => by rw [hrt] at h; cases h) (fun fs hr => retN X0 hx (t := .boolean) hrt (by simp) (hb hby d2_69) hr) (by decide) (by decide) (⟨rfl, N0, e0⟩)
  have t58 : Go p.tables e below (PQ s below (fun v_ h_ L_ => v_ = some (.int (F2_58 x)) ∧ Fr n0 L_ ∧ h_ = h0) 0 0) (s₁.setTop (mkF m 58 #[.val (.int x)] [])) := by
    refine Go.via (B := s₁.setTop (mkF m 61 #[.val (.int x)] [(.int (1114111 : Int32)), (.int x)])) (fun t_ k_ => ?_) ?_
    · show Steps p.tables e below (s₁.setTop (mkF m 58 #[.val (.int x)] [])) t_
      refine XS.iloadN X0.here hx rfl (hb hby d2_58) rfl ?_
      show Steps p.tables e below (s₁.setTop (mkF m 59 #[.val (.int x)] [(.int x)])) t_
      refine X0.ldcInt hx hown (mvT hZ (hw _ (List.mem_of_getElem? (i := 5) rfl))) (g := (mkF m 59 #[.val (.int x)] [(.int x)])) rfl (hb hby d2_59) _ ?_
      show Steps p.tables e below (s₁.setTop (mkF m 61 #[.val (.int x)] [(.int (1114111 : Int32)), (.int x)])) t_
      exact k_
    by_cases hc61 : (1114111 : Int32) < x
    · rw [show F2_58 x = F2_68 x from if_pos hc61]
      refine Go.via (B := s₁.setTop (mkF m 68 #[.val (.int x)] [])) (fun t_ k_ => XS.icmpYes X0.here hx rfl (pc0 := 61) (pc' := 68) rfl (hb hby d2_61) rfl ((tlt hc61).2.2.1) (by decide) (by decide) k_) ?_
      exact t68
    · rw [show F2_58 x = F2_64 x from if_neg hc61]
      refine Go.via (B := s₁.setTop (mkF m 64 #[.val (.int x)] [])) (fun t_ k_ => XS.icmpNo X0.here hx rfl (hb hby d2_61) rfl ((flt hc61).2.2.1) k_) ?_
      exact t64
  have t56 : Go p.tables e below (PQ s below (fun v_ h_ L_ => v_ = some (.int (F2_56 x)) ∧ Fr n0 L_ ∧ h_ = h0) 0 0) (s₁.setTop (mkF m 56 #[.val (.int x)] [])) := by
    refine Go.via (B := s₁.setTop (mkF m 57 #[.val (.int x)] [(.int (0 : Int32))])) (fun t_ k_ => ?_) ?_
    · show Steps p.tables e below (s₁.setTop (mkF m 56 #[.val (.int x)] [])) t_
      refine XS.iconst X0.here hx rfl (hb hby d2_56) ?_
      show Steps p.tables e below (s₁.setTop (mkF m 57 #[.val (.int x)] [(.int (0 : Int32))])) t_
      exact k_
    exact Go.leave X0 hlk (v := (some (.int (0 : Int32)))) (fun h => by rw [hrt] at h; cases h) (fun fs hr => retN X0 hx (t := .boolean) hrt (by simp) (hb hby d2_57) hr) (by decide) (by decide) (⟨rfl, N0, e0⟩)
  have t50 : Go p.tables e below (PQ s below (fun v_ h_ L_ => v_ = some (.int (F2_50 x)) ∧ Fr n0 L_ ∧ h_ = h0) 0 0) (s₁.setTop (mkF m 50 #[.val (.int x)] [])) := by
    refine Go.via (B := s₁.setTop (mkF m 53 #[.val (.int x)] [(.int (65535 : Int32)), (.int x)])) (fun t_ k_ => ?_) ?_
    · show Steps p.tables e below (s₁.setTop (mkF m 50 #[.val (.int x)] [])) t_
      refine XS.iloadN X0.here hx rfl (hb hby d2_50) rfl ?_
      show Steps p.tables e below (s₁.setTop (mkF m 51 #[.val (.int x)] [(.int x)])) t_
      refine X0.ldcInt hx hown (mvT hZ (hw _ (List.mem_of_getElem? (i := 23) rfl))) (g := (mkF m 51 #[.val (.int x)] [(.int x)])) rfl (hb hby d2_51) _ ?_
      show Steps p.tables e below (s₁.setTop (mkF m 53 #[.val (.int x)] [(.int (65535 : Int32)), (.int x)])) t_
      exact k_
    by_cases hc53 : x = (65535 : Int32)
    · rw [show F2_50 x = F2_56 x from if_pos hc53]
      refine Go.via (B := s₁.setTop (mkF m 56 #[.val (.int x)] [])) (fun t_ k_ => XS.icmpNo X0.here hx rfl (hb hby d2_53) rfl ((teq hc53).2) k_) ?_
      exact t56
    · rw [show F2_50 x = F2_58 x from if_neg hc53]
      refine Go.via (B := s₁.setTop (mkF m 58 #[.val (.int x)] [])) (fun t_ k_ => XS.icmpYes X0.here hx rfl (pc0 := 53) (pc' := 58) rfl (hb hby d2_53) rfl ((feq hc53).2) (by decide) (by decide) k_) ?_
      exact t58
  have t44 : Go p.tables e below (PQ s below (fun v_ h_ L_ => v_ = some (.int (F2_44 x)) ∧ Fr n0 L_ ∧ h_ = h0) 0 0) (s₁.setTop (mkF m 44 #[.val (.int x)] [])) := by
    refine Go.via (B := s₁.setTop (mkF m 47 #[.val (.int x)] [(.int (65534 : Int32)), (.int x)])) (fun t_ k_ => ?_) ?_
    · show Steps p.tables e below (s₁.setTop (mkF m 44 #[.val (.int x)] [])) t_
      refine XS.iloadN X0.here hx rfl (hb hby d2_44) rfl ?_
      show Steps p.tables e below (s₁.setTop (mkF m 45 #[.val (.int x)] [(.int x)])) t_
      refine X0.ldcInt hx hown (mvT hZ (hw _ (List.mem_of_getElem? (i := 10) rfl))) (g := (mkF m 45 #[.val (.int x)] [(.int x)])) rfl (hb hby d2_45) _ ?_
      show Steps p.tables e below (s₁.setTop (mkF m 47 #[.val (.int x)] [(.int (65534 : Int32)), (.int x)])) t_
      exact k_
    by_cases hc47 : x = (65534 : Int32)
    · rw [show F2_44 x = F2_56 x from if_pos hc47]
      refine Go.via (B := s₁.setTop (mkF m 56 #[.val (.int x)] [])) (fun t_ k_ => XS.icmpYes X0.here hx rfl (pc0 := 47) (pc' := 56) rfl (hb hby d2_47) rfl ((teq hc47).1) (by decide) (by decide) k_) ?_
      exact t56
    · rw [show F2_44 x = F2_50 x from if_neg hc47]
      refine Go.via (B := s₁.setTop (mkF m 50 #[.val (.int x)] [])) (fun t_ k_ => XS.icmpNo X0.here hx rfl (hb hby d2_47) rfl ((feq hc47).1) k_) ?_
      exact t50
  have t42 : Go p.tables e below (PQ s below (fun v_ h_ L_ => v_ = some (.int (F2_42 x)) ∧ Fr n0 L_ ∧ h_ = h0) 0 0) (s₁.setTop (mkF m 42 #[.val (.int x)] [])) := by
    refine Go.via (B := s₁.setTop (mkF m 43 #[.val (.int x)] [(.int (0 : Int32))])) (fun t_ k_ => ?_) ?_
    · show Steps p.tables e below (s₁.setTop (mkF m 42 #[.val (.int x)] [])) t_
      refine XS.iconst X0.here hx rfl (hb hby d2_42) ?_
      show Steps p.tables e below (s₁.setTop (mkF m 43 #[.val (.int x)] [(.int (0 : Int32))])) t_
      exact k_
    exact Go.leave X0 hlk (v := (some (.int (0 : Int32)))) (fun h => by rw [hrt] at h; cases h) (fun fs hr => retN X0 hx (t := .boolean) hrt (by simp) (hb hby d2_43) hr) (by decide) (by decide) (⟨rfl, N0, e0⟩)
  have t36 : Go p.tables e below (PQ s below (fun v_ h_ L_ => v_ = some (.int (F2_36 x)) ∧ Fr n0 L_ ∧ h_ = h0) 0 0) (s₁.setTop (mkF m 36 #[.val (.int x)] [])) := by
    refine Go.via (B := s₁.setTop (mkF m 39 #[.val (.int x)] [(.int (57343 : Int32)), (.int x)])) (fun t_ k_ => ?_) ?_
    · show Steps p.tables e below (s₁.setTop (mkF m 36 #[.val (.int x)] [])) t_
      refine XS.iloadN X0.here hx rfl (hb hby d2_36) rfl ?_
      show Steps p.tables e below (s₁.setTop (mkF m 37 #[.val (.int x)] [(.int x)])) t_
      refine X0.ldcInt hx hown (mvT hZ (hw _ (List.mem_of_getElem? (i := 9) rfl))) (g := (mkF m 37 #[.val (.int x)] [(.int x)])) rfl (hb hby d2_37) _ ?_
      show Steps p.tables e below (s₁.setTop (mkF m 39 #[.val (.int x)] [(.int (57343 : Int32)), (.int x)])) t_
      exact k_
    by_cases hc39 : (57343 : Int32) < x
    · rw [show F2_36 x = F2_44 x from if_pos hc39]
      refine Go.via (B := s₁.setTop (mkF m 44 #[.val (.int x)] [])) (fun t_ k_ => XS.icmpYes X0.here hx rfl (pc0 := 39) (pc' := 44) rfl (hb hby d2_39) rfl ((tlt hc39).2.2.1) (by decide) (by decide) k_) ?_
      exact t44
    · rw [show F2_36 x = F2_42 x from if_neg hc39]
      refine Go.via (B := s₁.setTop (mkF m 42 #[.val (.int x)] [])) (fun t_ k_ => XS.icmpNo X0.here hx rfl (hb hby d2_39) rfl ((flt hc39).2.2.1) k_) ?_
      exact t42
  have t30 : Go p.tables e below (PQ s below (fun v_ h_ L_ => v_ = some (.int (F2_30 x)) ∧ Fr n0 L_ ∧ h_ = h0) 0 0) (s₁.setTop (mkF m 30 #[.val (.int x)] [])) := by
    refine Go.via (B := s₁.setTop (mkF m 33 #[.val (.int x)] [(.int (55296 : Int32)), (.int x)])) (fun t_ k_ => ?_) ?_
    · show Steps p.tables e below (s₁.setTop (mkF m 30 #[.val (.int x)] [])) t_
      refine XS.iloadN X0.here hx rfl (hb hby d2_30) rfl ?_
      show Steps p.tables e below (s₁.setTop (mkF m 31 #[.val (.int x)] [(.int x)])) t_
      refine X0.ldcInt hx hown (mvT hZ (hw _ (List.mem_of_getElem? (i := 8) rfl))) (g := (mkF m 31 #[.val (.int x)] [(.int x)])) rfl (hb hby d2_31) _ ?_
      show Steps p.tables e below (s₁.setTop (mkF m 33 #[.val (.int x)] [(.int (55296 : Int32)), (.int x)])) t_
      exact k_
    by_cases hc33 : x < (55296 : Int32)
    · rw [show F2_30 x = F2_44 x from if_pos hc33]
      refine Go.via (B := s₁.setTop (mkF m 44 #[.val (.int x)] [])) (fun t_ k_ => XS.icmpYes X0.here hx rfl (pc0 := 33) (pc' := 44) rfl (hb hby d2_33) rfl ((tlt hc33).1) (by decide) (by decide) k_) ?_
      exact t44
    · rw [show F2_30 x = F2_36 x from if_neg hc33]
      refine Go.via (B := s₁.setTop (mkF m 36 #[.val (.int x)] [])) (fun t_ k_ => XS.icmpNo X0.here hx rfl (hb hby d2_33) rfl ((flt hc33).1) k_) ?_
      exact t36
  have t28 : Go p.tables e below (PQ s below (fun v_ h_ L_ => v_ = some (.int (F2_28 x)) ∧ Fr n0 L_ ∧ h_ = h0) 0 0) (s₁.setTop (mkF m 28 #[.val (.int x)] [])) := by
    refine Go.via (B := s₁.setTop (mkF m 29 #[.val (.int x)] [(.int (0 : Int32))])) (fun t_ k_ => ?_) ?_
    · show Steps p.tables e below (s₁.setTop (mkF m 28 #[.val (.int x)] [])) t_
      refine XS.iconst X0.here hx rfl (hb hby d2_28) ?_
      show Steps p.tables e below (s₁.setTop (mkF m 29 #[.val (.int x)] [(.int (0 : Int32))])) t_
      exact k_
    exact Go.leave X0 hlk (v := (some (.int (0 : Int32)))) (fun h => by rw [hrt] at h; cases h) (fun fs hr => retN X0 hx (t := .boolean) hrt (by simp) (hb hby d2_29) hr) (by decide) (by decide) (⟨rfl, N0, e0⟩)
  have t24 : Go p.tables e below (PQ s below (fun v_ h_ L_ => v_ = some (.int (F2_24 x)) ∧ Fr n0 L_ ∧ h_ = h0) 0 0) (s₁.setTop (mkF m 24 #[.val (.int x)] [])) := by
    refine Go.via (B := s₁.setTop (mkF m 29 #[.val (.int x)] [(.int (1 : Int32))])) (fun t_ k_ => ?_) ?_
    · show Steps p.tables e below (s₁.setTop (mkF m 24 #[.val (.int x)] [])) t_
      refine XS.iconst X0.here hx rfl (hb hby d2_24) ?_
      show Steps p.tables e below (s₁.setTop (mkF m 25 #[.val (.int x)] [(.int (1 : Int32))])) t_
      refine XS.goto X0.here hx rfl (pc0 := 25) (pc' := 29) rfl (hb hby d2_25) (by decide) (by decide) ?_
      show Steps p.tables e below (s₁.setTop (mkF m 29 #[.val (.int x)] [(.int (1 : Int32))])) t_
      exact k_
    exact Go.leave X0 hlk (v := (some (.int (1 : Int32)))) (fun h => by rw [hrt] at h; cases h) (fun fs hr => retN X0 hx (t := .boolean) hrt (by simp) (hb hby d2_29) hr) (by decide) (by decide) (⟨rfl, N0, e0⟩)
  have t18 : Go p.tables e below (PQ s below (fun v_ h_ L_ => v_ = some (.int (F2_18 x)) ∧ Fr n0 L_ ∧ h_ = h0) 0 0) (s₁.setTop (mkF m 18 #[.val (.int x)] [])) := by
    refine Go.via (B := s₁.setTop (mkF m 21 #[.val (.int x)] [(.int (13 : Int32)), (.int x)])) (fun t_ k_ => ?_) ?_
    · show Steps p.tables e below (s₁.setTop (mkF m 18 #[.val (.int x)] [])) t_
      refine XS.iloadN X0.here hx rfl (hb hby d2_18) rfl ?_
      show Steps p.tables e below (s₁.setTop (mkF m 19 #[.val (.int x)] [(.int x)])) t_
      refine XS.bipush X0.here hx rfl (hb hby d2_19) ?_
      show Steps p.tables e below (s₁.setTop (mkF m 21 #[.val (.int x)] [(.int (13 : Int32)), (.int x)])) t_
      exact k_
    by_cases hc21 : x = (13 : Int32)
    · rw [show F2_18 x = F2_24 x from if_pos hc21]
      refine Go.via (B := s₁.setTop (mkF m 24 #[.val (.int x)] [])) (fun t_ k_ => XS.icmpNo X0.here hx rfl (hb hby d2_21) rfl ((teq hc21).2) k_) ?_
      exact t24
    · rw [show F2_18 x = F2_28 x from if_neg hc21]
      refine Go.via (B := s₁.setTop (mkF m 28 #[.val (.int x)] [])) (fun t_ k_ => XS.icmpYes X0.here hx rfl (pc0 := 21) (pc' := 28) rfl (hb hby d2_21) rfl ((feq hc21).2) (by decide) (by decide) k_) ?_
      exact t28
  have t12 : Go p.tables e below (PQ s below (fun v_ h_ L_ => v_ = some (.int (F2_12 x)) ∧ Fr n0 L_ ∧ h_ = h0) 0 0) (s₁.setTop (mkF m 12 #[.val (.int x)] [])) := by
    refine Go.via (B := s₁.setTop (mkF m 15 #[.val (.int x)] [(.int (10 : Int32)), (.int x)])) (fun t_ k_ => ?_) ?_
    · show Steps p.tables e below (s₁.setTop (mkF m 12 #[.val (.int x)] [])) t_
      refine XS.iloadN X0.here hx rfl (hb hby d2_12) rfl ?_
      show Steps p.tables e below (s₁.setTop (mkF m 13 #[.val (.int x)] [(.int x)])) t_
      refine XS.bipush X0.here hx rfl (hb hby d2_13) ?_
      show Steps p.tables e below (s₁.setTop (mkF m 15 #[.val (.int x)] [(.int (10 : Int32)), (.int x)])) t_
      exact k_
    by_cases hc15 : x = (10 : Int32)
    · rw [show F2_12 x = F2_24 x from if_pos hc15]
      refine Go.via (B := s₁.setTop (mkF m 24 #[.val (.int x)] [])) (fun t_ k_ => XS.icmpYes X0.here hx rfl (pc0 := 15) (pc' := 24) rfl (hb hby d2_15) rfl ((teq hc15).1) (by decide) (by decide) k_) ?_
      exact t24
    · rw [show F2_12 x = F2_18 x from if_neg hc15]
      refine Go.via (B := s₁.setTop (mkF m 18 #[.val (.int x)] [])) (fun t_ k_ => XS.icmpNo X0.here hx rfl (hb hby d2_15) rfl ((feq hc15).1) k_) ?_
      exact t18
  have t6 : Go p.tables e below (PQ s below (fun v_ h_ L_ => v_ = some (.int (F2_6 x)) ∧ Fr n0 L_ ∧ h_ = h0) 0 0) (s₁.setTop (mkF m 6 #[.val (.int x)] [])) := by
    refine Go.via (B := s₁.setTop (mkF m 9 #[.val (.int x)] [(.int (9 : Int32)), (.int x)])) (fun t_ k_ => ?_) ?_
    · show Steps p.tables e below (s₁.setTop (mkF m 6 #[.val (.int x)] [])) t_
      refine XS.iloadN X0.here hx rfl (hb hby d2_6) rfl ?_
      show Steps p.tables e below (s₁.setTop (mkF m 7 #[.val (.int x)] [(.int x)])) t_
      refine XS.bipush X0.here hx rfl (hb hby d2_7) ?_
      show Steps p.tables e below (s₁.setTop (mkF m 9 #[.val (.int x)] [(.int (9 : Int32)), (.int x)])) t_
      exact k_
    by_cases hc9 : x = (9 : Int32)
    · rw [show F2_6 x = F2_24 x from if_pos hc9]
      refine Go.via (B := s₁.setTop (mkF m 24 #[.val (.int x)] [])) (fun t_ k_ => XS.icmpYes X0.here hx rfl (pc0 := 9) (pc' := 24) rfl (hb hby d2_9) rfl ((teq hc9).1) (by decide) (by decide) k_) ?_
      exact t24
    · rw [show F2_6 x = F2_12 x from if_neg hc9]
      refine Go.via (B := s₁.setTop (mkF m 12 #[.val (.int x)] [])) (fun t_ k_ => XS.icmpNo X0.here hx rfl (hb hby d2_9) rfl ((feq hc9).1) k_) ?_
      exact t12
  have t0 : Go p.tables e below (PQ s below (fun v_ h_ L_ => v_ = some (.int (F2_0 x)) ∧ Fr n0 L_ ∧ h_ = h0) 0 0) (s₁.setTop (mkF m 0 #[.val (.int x)] [])) := by
    refine Go.via (B := s₁.setTop (mkF m 3 #[.val (.int x)] [(.int (32 : Int32)), (.int x)])) (fun t_ k_ => ?_) ?_
    · show Steps p.tables e below (s₁.setTop (mkF m 0 #[.val (.int x)] [])) t_
      refine XS.iloadN X0.here hx rfl (hb hby d2_0) rfl ?_
      show Steps p.tables e below (s₁.setTop (mkF m 1 #[.val (.int x)] [(.int x)])) t_
      refine XS.bipush X0.here hx rfl (hb hby d2_1) ?_
      show Steps p.tables e below (s₁.setTop (mkF m 3 #[.val (.int x)] [(.int (32 : Int32)), (.int x)])) t_
      exact k_
    by_cases hc3 : x < (32 : Int32)
    · rw [show F2_0 x = F2_6 x from if_pos hc3]
      refine Go.via (B := s₁.setTop (mkF m 6 #[.val (.int x)] [])) (fun t_ k_ => XS.icmpNo X0.here hx rfl (hb hby d2_3) rfl ((tlt hc3).2.1) k_) ?_
      exact t6
    · rw [show F2_0 x = F2_30 x from if_neg hc3]
      refine Go.via (B := s₁.setTop (mkF m 30 #[.val (.int x)] [])) (fun t_ k_ => XS.icmpYes X0.here hx rfl (pc0 := 3) (pc' := 30) rfl (hb hby d2_3) rfl ((flt hc3).2.1) (by decide) (by decide) k_) ?_
      exact t30
  refine Go.via (B := s₁.setTop (mkF m 0 #[.val (.int x)] [])) (fun t_ k_ => castTop (ef_2 m x) k_) ?_
  exact t0
theorem own_lt {x k : Int32} {K : Int} (e : k.toInt = K) (h : x.toInt < K) : x < k := Int32.lt_iff_toInt_lt.mpr (e ▸ h)
theorem own_nlt {x k : Int32} {K : Int} (e : k.toInt = K) (h : K ≤ x.toInt) : ¬ x < k := fun q => absurd (Int32.lt_iff_toInt_lt.mp q) (by rw [e]; omega)
theorem own_gt {x k : Int32} {K : Int} (e : k.toInt = K) (h : K < x.toInt) : k < x := Int32.lt_iff_toInt_lt.mpr (e ▸ h)
theorem own_ngt {x k : Int32} {K : Int} (e : k.toInt = K) (h : x.toInt ≤ K) : ¬ k < x := fun q => absurd (Int32.lt_iff_toInt_lt.mp q) (by rw [e]; omega)
theorem own_eq {x k : Int32} {K : Int} (e : k.toInt = K) (h : x.toInt = K) : x = k := Int32.toInt_inj.mp (h.trans e.symm)
theorem own_neq {x k : Int32} {K : Int} (e : k.toInt = K) (h : x.toInt ≠ K) : ¬ x = k := fun q => h (by rw [q, e])
theorem own_same (x : Int32) : F1_0 x = F2_0 x := by
  by_cases h0 : x.toInt < 9
  · rw [F1_0, if_neg (own_neq (x := x) (k := 9) (K := 9) rfl (by omega)), F1_6, if_neg (own_neq (x := x) (k := 10) (K := 10) rfl (by omega)), F1_12, if_neg (own_neq (x := x) (k := 13) (K := 13) rfl (by omega)), F1_18, if_pos (own_lt (x := x) (k := 32) (K := 32) rfl (by omega)), F1_30, if_pos (own_lt (x := x) (k := 57344) (K := 57344) rfl (by omega)), F1_42, if_pos (own_lt (x := x) (k := 65536) (K := 65536) rfl (by omega)), F1_58, F2_0, if_pos (own_lt (x := x) (k := 32) (K := 32) rfl (by omega)), F2_6, if_neg (own_neq (x := x) (k := 9) (K := 9) rfl (by omega)), F2_12, if_neg (own_neq (x := x) (k := 10) (K := 10) rfl (by omega)), F2_18, if_neg (own_neq (x := x) (k := 13) (K := 13) rfl (by omega)), F2_28]
    try rfl
  by_cases h1 : x.toInt < 10
  · rw [F1_0, if_pos (own_eq (x := x) (k := 9) (K := 9) rfl (by omega)), F1_54, F2_0, if_pos (own_lt (x := x) (k := 32) (K := 32) rfl (by omega)), F2_6, if_pos (own_eq (x := x) (k := 9) (K := 9) rfl (by omega)), F2_24]
    try rfl
  by_cases h2 : x.toInt < 11
  · rw [F1_0, if_neg (own_neq (x := x) (k := 9) (K := 9) rfl (by omega)), F1_6, if_pos (own_eq (x := x) (k := 10) (K := 10) rfl (by omega)), F1_54, F2_0, if_pos (own_lt (x := x) (k := 32) (K := 32) rfl (by omega)), F2_6, if_neg (own_neq (x := x) (k := 9) (K := 9) rfl (by omega)), F2_12, if_pos (own_eq (x := x) (k := 10) (K := 10) rfl (by omega)), F2_24]
    try rfl
  by_cases h3 : x.toInt < 13
  · rw [F1_0, if_neg (own_neq (x := x) (k := 9) (K := 9) rfl (by omega)), F1_6, if_neg (own_neq (x := x) (k := 10) (K := 10) rfl (by omega)), F1_12, if_neg (own_neq (x := x) (k := 13) (K := 13) rfl (by omega)), F1_18, if_pos (own_lt (x := x) (k := 32) (K := 32) rfl (by omega)), F1_30, if_pos (own_lt (x := x) (k := 57344) (K := 57344) rfl (by omega)), F1_42, if_pos (own_lt (x := x) (k := 65536) (K := 65536) rfl (by omega)), F1_58, F2_0, if_pos (own_lt (x := x) (k := 32) (K := 32) rfl (by omega)), F2_6, if_neg (own_neq (x := x) (k := 9) (K := 9) rfl (by omega)), F2_12, if_neg (own_neq (x := x) (k := 10) (K := 10) rfl (by omega)), F2_18, if_neg (own_neq (x := x) (k := 13) (K := 13) rfl (by omega)), F2_28]
    try rfl
  by_cases h4 : x.toInt < 14
  · rw [F1_0, if_neg (own_neq (x := x) (k := 9) (K := 9) rfl (by omega)), F1_6, if_neg (own_neq (x := x) (k := 10) (K := 10) rfl (by omega)), F1_12, if_pos (own_eq (x := x) (k := 13) (K := 13) rfl (by omega)), F1_54, F2_0, if_pos (own_lt (x := x) (k := 32) (K := 32) rfl (by omega)), F2_6, if_neg (own_neq (x := x) (k := 9) (K := 9) rfl (by omega)), F2_12, if_neg (own_neq (x := x) (k := 10) (K := 10) rfl (by omega)), F2_18, if_pos (own_eq (x := x) (k := 13) (K := 13) rfl (by omega)), F2_24]
    try rfl
  by_cases h5 : x.toInt < 32
  · rw [F1_0, if_neg (own_neq (x := x) (k := 9) (K := 9) rfl (by omega)), F1_6, if_neg (own_neq (x := x) (k := 10) (K := 10) rfl (by omega)), F1_12, if_neg (own_neq (x := x) (k := 13) (K := 13) rfl (by omega)), F1_18, if_pos (own_lt (x := x) (k := 32) (K := 32) rfl (by omega)), F1_30, if_pos (own_lt (x := x) (k := 57344) (K := 57344) rfl (by omega)), F1_42, if_pos (own_lt (x := x) (k := 65536) (K := 65536) rfl (by omega)), F1_58, F2_0, if_pos (own_lt (x := x) (k := 32) (K := 32) rfl (by omega)), F2_6, if_neg (own_neq (x := x) (k := 9) (K := 9) rfl (by omega)), F2_12, if_neg (own_neq (x := x) (k := 10) (K := 10) rfl (by omega)), F2_18, if_neg (own_neq (x := x) (k := 13) (K := 13) rfl (by omega)), F2_28]
    try rfl
  by_cases h6 : x.toInt < 55296
  · rw [F1_0, if_neg (own_neq (x := x) (k := 9) (K := 9) rfl (by omega)), F1_6, if_neg (own_neq (x := x) (k := 10) (K := 10) rfl (by omega)), F1_12, if_neg (own_neq (x := x) (k := 13) (K := 13) rfl (by omega)), F1_18, if_neg (own_nlt (x := x) (k := 32) (K := 32) rfl (by omega)), F1_24, if_neg (own_ngt (x := x) (k := 55295) (K := 55295) rfl (by omega)), F1_54, F2_0, if_neg (own_nlt (x := x) (k := 32) (K := 32) rfl (by omega)), F2_30, if_pos (own_lt (x := x) (k := 55296) (K := 55296) rfl (by omega)), F2_44, if_neg (own_neq (x := x) (k := 65534) (K := 65534) rfl (by omega)), F2_50, if_neg (own_neq (x := x) (k := 65535) (K := 65535) rfl (by omega)), F2_58, if_neg (own_ngt (x := x) (k := 1114111) (K := 1114111) rfl (by omega)), F2_64]
    try rfl
  by_cases h7 : x.toInt < 57344
  · rw [F1_0, if_neg (own_neq (x := x) (k := 9) (K := 9) rfl (by omega)), F1_6, if_neg (own_neq (x := x) (k := 10) (K := 10) rfl (by omega)), F1_12, if_neg (own_neq (x := x) (k := 13) (K := 13) rfl (by omega)), F1_18, if_neg (own_nlt (x := x) (k := 32) (K := 32) rfl (by omega)), F1_24, if_pos (own_gt (x := x) (k := 55295) (K := 55295) rfl (by omega)), F1_30, if_pos (own_lt (x := x) (k := 57344) (K := 57344) rfl (by omega)), F1_42, if_pos (own_lt (x := x) (k := 65536) (K := 65536) rfl (by omega)), F1_58, F2_0, if_neg (own_nlt (x := x) (k := 32) (K := 32) rfl (by omega)), F2_30, if_neg (own_nlt (x := x) (k := 55296) (K := 55296) rfl (by omega)), F2_36, if_neg (own_ngt (x := x) (k := 57343) (K := 57343) rfl (by omega)), F2_42]
    try rfl
  by_cases h8 : x.toInt < 65534
  · rw [F1_0, if_neg (own_neq (x := x) (k := 9) (K := 9) rfl (by omega)), F1_6, if_neg (own_neq (x := x) (k := 10) (K := 10) rfl (by omega)), F1_12, if_neg (own_neq (x := x) (k := 13) (K := 13) rfl (by omega)), F1_18, if_neg (own_nlt (x := x) (k := 32) (K := 32) rfl (by omega)), F1_24, if_pos (own_gt (x := x) (k := 55295) (K := 55295) rfl (by omega)), F1_30, if_neg (own_nlt (x := x) (k := 57344) (K := 57344) rfl (by omega)), F1_36, if_neg (own_ngt (x := x) (k := 65533) (K := 65533) rfl (by omega)), F1_54, F2_0, if_neg (own_nlt (x := x) (k := 32) (K := 32) rfl (by omega)), F2_30, if_neg (own_nlt (x := x) (k := 55296) (K := 55296) rfl (by omega)), F2_36, if_pos (own_gt (x := x) (k := 57343) (K := 57343) rfl (by omega)), F2_44, if_neg (own_neq (x := x) (k := 65534) (K := 65534) rfl (by omega)), F2_50, if_neg (own_neq (x := x) (k := 65535) (K := 65535) rfl (by omega)), F2_58, if_neg (own_ngt (x := x) (k := 1114111) (K := 1114111) rfl (by omega)), F2_64]
    try rfl
  by_cases h9 : x.toInt < 65535
  · rw [F1_0, if_neg (own_neq (x := x) (k := 9) (K := 9) rfl (by omega)), F1_6, if_neg (own_neq (x := x) (k := 10) (K := 10) rfl (by omega)), F1_12, if_neg (own_neq (x := x) (k := 13) (K := 13) rfl (by omega)), F1_18, if_neg (own_nlt (x := x) (k := 32) (K := 32) rfl (by omega)), F1_24, if_pos (own_gt (x := x) (k := 55295) (K := 55295) rfl (by omega)), F1_30, if_neg (own_nlt (x := x) (k := 57344) (K := 57344) rfl (by omega)), F1_36, if_pos (own_gt (x := x) (k := 65533) (K := 65533) rfl (by omega)), F1_42, if_pos (own_lt (x := x) (k := 65536) (K := 65536) rfl (by omega)), F1_58, F2_0, if_neg (own_nlt (x := x) (k := 32) (K := 32) rfl (by omega)), F2_30, if_neg (own_nlt (x := x) (k := 55296) (K := 55296) rfl (by omega)), F2_36, if_pos (own_gt (x := x) (k := 57343) (K := 57343) rfl (by omega)), F2_44, if_pos (own_eq (x := x) (k := 65534) (K := 65534) rfl (by omega)), F2_56]
    try rfl
  by_cases h10 : x.toInt < 65536
  · rw [F1_0, if_neg (own_neq (x := x) (k := 9) (K := 9) rfl (by omega)), F1_6, if_neg (own_neq (x := x) (k := 10) (K := 10) rfl (by omega)), F1_12, if_neg (own_neq (x := x) (k := 13) (K := 13) rfl (by omega)), F1_18, if_neg (own_nlt (x := x) (k := 32) (K := 32) rfl (by omega)), F1_24, if_pos (own_gt (x := x) (k := 55295) (K := 55295) rfl (by omega)), F1_30, if_neg (own_nlt (x := x) (k := 57344) (K := 57344) rfl (by omega)), F1_36, if_pos (own_gt (x := x) (k := 65533) (K := 65533) rfl (by omega)), F1_42, if_pos (own_lt (x := x) (k := 65536) (K := 65536) rfl (by omega)), F1_58, F2_0, if_neg (own_nlt (x := x) (k := 32) (K := 32) rfl (by omega)), F2_30, if_neg (own_nlt (x := x) (k := 55296) (K := 55296) rfl (by omega)), F2_36, if_pos (own_gt (x := x) (k := 57343) (K := 57343) rfl (by omega)), F2_44, if_neg (own_neq (x := x) (k := 65534) (K := 65534) rfl (by omega)), F2_50, if_pos (own_eq (x := x) (k := 65535) (K := 65535) rfl (by omega)), F2_56]
    try rfl
  by_cases h11 : x.toInt < 1114112
  · rw [F1_0, if_neg (own_neq (x := x) (k := 9) (K := 9) rfl (by omega)), F1_6, if_neg (own_neq (x := x) (k := 10) (K := 10) rfl (by omega)), F1_12, if_neg (own_neq (x := x) (k := 13) (K := 13) rfl (by omega)), F1_18, if_neg (own_nlt (x := x) (k := 32) (K := 32) rfl (by omega)), F1_24, if_pos (own_gt (x := x) (k := 55295) (K := 55295) rfl (by omega)), F1_30, if_neg (own_nlt (x := x) (k := 57344) (K := 57344) rfl (by omega)), F1_36, if_pos (own_gt (x := x) (k := 65533) (K := 65533) rfl (by omega)), F1_42, if_neg (own_nlt (x := x) (k := 65536) (K := 65536) rfl (by omega)), F1_48, if_neg (own_ngt (x := x) (k := 1114111) (K := 1114111) rfl (by omega)), F1_54, F2_0, if_neg (own_nlt (x := x) (k := 32) (K := 32) rfl (by omega)), F2_30, if_neg (own_nlt (x := x) (k := 55296) (K := 55296) rfl (by omega)), F2_36, if_pos (own_gt (x := x) (k := 57343) (K := 57343) rfl (by omega)), F2_44, if_neg (own_neq (x := x) (k := 65534) (K := 65534) rfl (by omega)), F2_50, if_neg (own_neq (x := x) (k := 65535) (K := 65535) rfl (by omega)), F2_58, if_neg (own_ngt (x := x) (k := 1114111) (K := 1114111) rfl (by omega)), F2_64]
    try rfl
  rw [F1_0, if_neg (own_neq (x := x) (k := 9) (K := 9) rfl (by omega)), F1_6, if_neg (own_neq (x := x) (k := 10) (K := 10) rfl (by omega)), F1_12, if_neg (own_neq (x := x) (k := 13) (K := 13) rfl (by omega)), F1_18, if_neg (own_nlt (x := x) (k := 32) (K := 32) rfl (by omega)), F1_24, if_pos (own_gt (x := x) (k := 55295) (K := 55295) rfl (by omega)), F1_30, if_neg (own_nlt (x := x) (k := 57344) (K := 57344) rfl (by omega)), F1_36, if_pos (own_gt (x := x) (k := 65533) (K := 65533) rfl (by omega)), F1_42, if_neg (own_nlt (x := x) (k := 65536) (K := 65536) rfl (by omega)), F1_48, if_pos (own_gt (x := x) (k := 1114111) (K := 1114111) rfl (by omega)), F1_58, F2_0, if_neg (own_nlt (x := x) (k := 32) (K := 32) rfl (by omega)), F2_30, if_neg (own_nlt (x := x) (k := 55296) (K := 55296) rfl (by omega)), F2_36, if_pos (own_gt (x := x) (k := 57343) (K := 57343) rfl (by omega)), F2_44, if_neg (own_neq (x := x) (k := 65534) (K := 65534) rfl (by omega)), F2_50, if_neg (own_neq (x := x) (k := 65535) (K := 65535) rfl (by omega)), F2_58, if_pos (own_gt (x := x) (k := 1114111) (K := 1114111) rfl (by omega)), F2_68]
  try rfl
theorem own_idx (x : Int32) : ¬ (x &&& (15 : Int32)) < 0 ∧ (x &&& (15 : Int32)).toNatClampNeg < 16 := by
  have h := c_and x (15 : Int32) (by decide)
  have e15 : (15 : Int32).toInt = 15 := rfl
  have e0 : (0 : Int32).toInt = 0 := rfl
  rw [Int32.lt_iff_toInt_lt, e0]
  refine ⟨by omega, ?_⟩
  show (x &&& (15 : Int32)).toInt.toNat < 16
  omega
theorem pn_0 : plainName "com/example/shelfmark/shelfmark/text/XmlCharsIsCharPinLaw" = true := by first | (simp [plainName, overriddenIn]; done) | decide +kernel
theorem ef_0 (m : MethodId) (x0 : Int32) (x1 : Int32) (x2 : Int32) (x3 : Int32) (x4 : Int32) : entryFrame m #[(.int x0), (.int x1), (.int x2), (.int x3), (.int x4)] maxLocals = mkF m 0 #[.val (.int x0), .val (.int x1), .val (.int x2), .val (.int x3), .val (.int x4), .unset, .unset, .unset, .unset] [] := by first | (simp [entryFrame, mkF, argsToLocals, Value.category, maxLocals]; done) | rfl
def Q0 (Z : State) (p0 : Int32) (p1 : Int32) (p2 : Int32) (p3 : Int32) (p4 : Int32) (h0 : Heap) (n0 : Nat) (v : Option Value) (h : Heap) (L : List Loc) : Prop := v = some (.int 1) ∧ Fr n0 L
set_option maxRecDepth 65536 in
set_option maxHeartbeats 40000000 in
theorem rm0 (l : Launch) (Z : State) (a0 : Array Value) (hw : ∀ d ∈ tables_1, d.before a0 Z = true) (ws : List Jvm.Cond) (p0 : Int32) (p1 : Int32) (p2 : Int32) (p3 : Int32) (p4 : Int32) (h0 : Heap) (n0 : Nat) (Z0 : n0 ≤ h0.size) :
    MetFree l x (head1 (Jvm.Cond.code x code maxLocals ret :: ws) room_1) (fun a_ U_ => a_ = #[(.int p0), (.int p1), (.int p2), (.int p3), (.int p4)] ∧ Z.Warmed39 U_.vm ∧ U_.heap = h0) (fun _ _ _ _ _ => True) (fun _ U_ o_ V_ => ∃ v_ L_, o_ = .returned v_ ∧ Q0 Z p0 p1 p2 p3 p4 h0 n0 v_ V_.heap L_ ∧ FrameEnd U_ o_ V_ L_ 16 128) := by
  refine MetFree.of_bodySF (plainFor_of_name pn_0) hisR ?_
  intro p e s m args below meth c s₁ Bd hml0 hP hK
  obtain ⟨rfl, hZ, hh⟩ := hP
  have hx := Bd.exec
  have hby := Bd.bytes
  have hml : c.maxLocals = 9 := hml0
  have hown : s.vm.findClass "com/example/shelfmark/shelfmark/text/XmlCharsIsCharPinLaw" = some m.cls := findClass_of_methodNamed Bd.named
  have hnm := (name_of_methodNamed Bd.named Bd.method).1
  have hlk : meth.locks = false := BodyLoose.notSynchronized Bd
  have hrt := Bd.returns
  have X0 : Stand p l e room_1 s m #[(.int p0), (.int p1), (.int p2), (.int p3), (.int p4)] below meth c s₁ [] 0 0 := Stand.of_body Bd
  have e0 : s₁.heap = h0 := by rw [← hh, Bd.state]; rfl
  have N0 := Fr.nil n0
  show Go p.tables e below (PQ s below (Q0 Z p0 p1 p2 p3 p4 h0 n0) 16 128) _
  refine Go.via (B := s₁.setTop (mkF m 0 #[.val (.int p0), .val (.int p1), .val (.int p2), .val (.int p3), .val (.int p4), .unset, .unset, .unset, .unset] [])) (fun t_ k_ => castTop (ef_0 m p0 p1 p2 p3 p4) k_) ?_
  refine Go.via (B := s₁.setTop (mkF m 2 #[.val (.int p0), .val (.int p1), .val (.int p2), .val (.int p3), .val (.int p4), .unset, .unset, .unset, .unset] [(.int (16 : Int32))])) (fun t_ k_ => ?_) ?_
  · show Steps p.tables e below (s₁.setTop (mkF m 0 #[.val (.int p0), .val (.int p1), .val (.int p2), .val (.int p3), .val (.int p4), .unset, .unset, .unset, .unset] [])) t_
    refine XS.bipush X0.here hx rfl (hb hby at_0) ?_
    show Steps p.tables e below (s₁.setTop (mkF m 2 #[.val (.int p0), .val (.int p1), .val (.int p2), .val (.int p3), .val (.int p4), .unset, .unset, .unset, .unset] [(.int (16 : Int32))])) t_
    exact k_
  obtain ⟨T1, h1, k1, X1, e1, E1, A1, st1⟩ := newP X0 hx hZ (hw _ (List.mem_of_getElem? (i := 0) rfl)) e0 (g := (mkF m 2 #[.val (.int p0), .val (.int p1), .val (.int p2), .val (.int p3), .val (.int p4), .unset, .unset, .unset, .unset] [(.int (16 : Int32))])) rfl (hb hby at_2) rfl (by decide) (cap := 16) (by decide) (by decide) (by decide) (by decide)
  obtain ⟨b1, g1⟩ : ∃ z, z = h0.size := ⟨_, rfl⟩
  rw [← g1] at A1 st1
  have gb1 : n0 ≤ b1 := Nat.le_trans Z0 (Nat.le_of_eq g1.symm)
  have Z1 : n0 ≤ h1.size := Nat.le_trans Z0 E1.1
  refine Go.via st1 ?_
  show Go p.tables e below _ (T1.setTop (mkF m 4 #[.val (.int p0), .val (.int p1), .val (.int p2), .val (.int p3), .val (.int p4), .unset, .unset, .unset, .unset] [(.ref b1)]))
  have V1 : Ary Z h1 b1 .int 16 _ := Ary.new A1 (by decide) rfl rfl
  refine Go.via (B := T1.setTop (mkF m 8 #[.val (.int p0), .val (.int p1), .val (.int p2), .val (.int p3), .val (.int p4), .unset, .unset, .unset, .unset] [(.int (9 : Int32)), (.int (0 : Int32)), (.ref b1), (.ref b1)])) (fun t_ k_ => ?_) ?_
  · show Steps p.tables e below (T1.setTop (mkF m 4 #[.val (.int p0), .val (.int p1), .val (.int p2), .val (.int p3), .val (.int p4), .unset, .unset, .unset, .unset] [(.ref b1)])) t_
    refine XS.dup X1.here hx rfl (hb hby at_4) rfl rfl ?_
    show Steps p.tables e below (T1.setTop (mkF m 5 #[.val (.int p0), .val (.int p1), .val (.int p2), .val (.int p3), .val (.int p4), .unset, .unset, .unset, .unset] [(.ref b1), (.ref b1)])) t_
    refine XS.iconst X1.here hx rfl (hb hby at_5) ?_
    show Steps p.tables e below (T1.setTop (mkF m 6 #[.val (.int p0), .val (.int p1), .val (.int p2), .val (.int p3), .val (.int p4), .unset, .unset, .unset, .unset] [(.int (0 : Int32)), (.ref b1), (.ref b1)])) t_
    refine XS.bipush X1.here hx rfl (hb hby at_6) ?_
    show Steps p.tables e below (T1.setTop (mkF m 8 #[.val (.int p0), .val (.int p1), .val (.int p2), .val (.int p3), .val (.int p4), .unset, .unset, .unset, .unset] [(.int (9 : Int32)), (.int (0 : Int32)), (.ref b1), (.ref b1)])) t_
    exact k_
  obtain ⟨T2, h2, L2, X2, e2, N2, W2, V2, st2⟩ := aputI X1 hx hZ e1 V1 N0 gb1 (by decide) (by decide) (g := (mkF m 8 #[.val (.int p0), .val (.int p1), .val (.int p2), .val (.int p3), .val (.int p4), .unset, .unset, .unset, .unset] [(.int (9 : Int32)), (.int (0 : Int32)), (.ref b1), (.ref b1)])) rfl rfl (hb hby at_8)
  have Z2 : n0 ≤ h2.size := Nat.le_trans Z1 (Keep.of_wr W2).1
  clear W2
  refine Go.via st2 ?_
  show Go p.tables e below _ (T2.setTop (mkF m 9 #[.val (.int p0), .val (.int p1), .val (.int p2), .val (.int p3), .val (.int p4), .unset, .unset, .unset, .unset] [(.ref b1)]))
  refine Go.via (B := T2.setTop (mkF m 13 #[.val (.int p0), .val (.int p1), .val (.int p2), .val (.int p3), .val (.int p4), .unset, .unset, .unset, .unset] [(.int (10 : Int32)), (.int (1 : Int32)), (.ref b1), (.ref b1)])) (fun t_ k_ => ?_) ?_
  · show Steps p.tables e below (T2.setTop (mkF m 9 #[.val (.int p0), .val (.int p1), .val (.int p2), .val (.int p3), .val (.int p4), .unset, .unset, .unset, .unset] [(.ref b1)])) t_
    refine XS.dup X2.here hx rfl (hb hby at_9) rfl rfl ?_
    show Steps p.tables e below (T2.setTop (mkF m 10 #[.val (.int p0), .val (.int p1), .val (.int p2), .val (.int p3), .val (.int p4), .unset, .unset, .unset, .unset] [(.ref b1), (.ref b1)])) t_
    refine XS.iconst X2.here hx rfl (hb hby at_10) ?_
    show Steps p.tables e below (T2.setTop (mkF m 11 #[.val (.int p0), .val (.int p1), .val (.int p2), .val (.int p3), .val (.int p4), .unset, .unset, .unset, .unset] [(.int (1 : Int32)), (.ref b1), (.ref b1)])) t_
    refine XS.bipush X2.here hx rfl (hb hby at_11) ?_
    show Steps p.tables e below (T2.setTop (mkF m 13 #[.val (.int p0), .val (.int p1), .val (.int p2), .val (.int p3), .val (.int p4), .unset, .unset, .unset, .unset] [(.int (10 : Int32)), (.int (1 : Int32)), (.ref b1), (.ref b1)])) t_
    exact k_
  obtain ⟨T3, h3, L3, X3, e3, N3, W3, V3, st3⟩ := aputI X2 hx hZ e2 V2 N2 gb1 (by decide) (by decide) (g := (mkF m 13 #[.val (.int p0), .val (.int p1), .val (.int p2), .val (.int p3), .val (.int p4), .unset, .unset, .unset, .unset] [(.int (10 : Int32)), (.int (1 : Int32)), (.ref b1), (.ref b1)])) rfl rfl (hb hby at_13)
  have Z3 : n0 ≤ h3.size := Nat.le_trans Z2 (Keep.of_wr W3).1
  clear W3
  refine Go.via st3 ?_
  show Go p.tables e below _ (T3.setTop (mkF m 14 #[.val (.int p0), .val (.int p1), .val (.int p2), .val (.int p3), .val (.int p4), .unset, .unset, .unset, .unset] [(.ref b1)]))
  refine Go.via (B := T3.setTop (mkF m 18 #[.val (.int p0), .val (.int p1), .val (.int p2), .val (.int p3), .val (.int p4), .unset, .unset, .unset, .unset] [(.int (13 : Int32)), (.int (2 : Int32)), (.ref b1), (.ref b1)])) (fun t_ k_ => ?_) ?_
  · show Steps p.tables e below (T3.setTop (mkF m 14 #[.val (.int p0), .val (.int p1), .val (.int p2), .val (.int p3), .val (.int p4), .unset, .unset, .unset, .unset] [(.ref b1)])) t_
    refine XS.dup X3.here hx rfl (hb hby at_14) rfl rfl ?_
    show Steps p.tables e below (T3.setTop (mkF m 15 #[.val (.int p0), .val (.int p1), .val (.int p2), .val (.int p3), .val (.int p4), .unset, .unset, .unset, .unset] [(.ref b1), (.ref b1)])) t_
    refine XS.iconst X3.here hx rfl (hb hby at_15) ?_
    show Steps p.tables e below (T3.setTop (mkF m 16 #[.val (.int p0), .val (.int p1), .val (.int p2), .val (.int p3), .val (.int p4), .unset, .unset, .unset, .unset] [(.int (2 : Int32)), (.ref b1), (.ref b1)])) t_
    refine XS.bipush X3.here hx rfl (hb hby at_16) ?_
    show Steps p.tables e below (T3.setTop (mkF m 18 #[.val (.int p0), .val (.int p1), .val (.int p2), .val (.int p3), .val (.int p4), .unset, .unset, .unset, .unset] [(.int (13 : Int32)), (.int (2 : Int32)), (.ref b1), (.ref b1)])) t_
    exact k_
  obtain ⟨T4, h4, L4, X4, e4, N4, W4, V4, st4⟩ := aputI X3 hx hZ e3 V3 N3 gb1 (by decide) (by decide) (g := (mkF m 18 #[.val (.int p0), .val (.int p1), .val (.int p2), .val (.int p3), .val (.int p4), .unset, .unset, .unset, .unset] [(.int (13 : Int32)), (.int (2 : Int32)), (.ref b1), (.ref b1)])) rfl rfl (hb hby at_18)
  have Z4 : n0 ≤ h4.size := Nat.le_trans Z3 (Keep.of_wr W4).1
  clear W4
  refine Go.via st4 ?_
  show Go p.tables e below _ (T4.setTop (mkF m 19 #[.val (.int p0), .val (.int p1), .val (.int p2), .val (.int p3), .val (.int p4), .unset, .unset, .unset, .unset] [(.ref b1)]))
  refine Go.via (B := T4.setTop (mkF m 23 #[.val (.int p0), .val (.int p1), .val (.int p2), .val (.int p3), .val (.int p4), .unset, .unset, .unset, .unset] [(.int (32 : Int32)), (.int (3 : Int32)), (.ref b1), (.ref b1)])) (fun t_ k_ => ?_) ?_
  · show Steps p.tables e below (T4.setTop (mkF m 19 #[.val (.int p0), .val (.int p1), .val (.int p2), .val (.int p3), .val (.int p4), .unset, .unset, .unset, .unset] [(.ref b1)])) t_
    refine XS.dup X4.here hx rfl (hb hby at_19) rfl rfl ?_
    show Steps p.tables e below (T4.setTop (mkF m 20 #[.val (.int p0), .val (.int p1), .val (.int p2), .val (.int p3), .val (.int p4), .unset, .unset, .unset, .unset] [(.ref b1), (.ref b1)])) t_
    refine XS.iconst X4.here hx rfl (hb hby at_20) ?_
    show Steps p.tables e below (T4.setTop (mkF m 21 #[.val (.int p0), .val (.int p1), .val (.int p2), .val (.int p3), .val (.int p4), .unset, .unset, .unset, .unset] [(.int (3 : Int32)), (.ref b1), (.ref b1)])) t_
    refine XS.bipush X4.here hx rfl (hb hby at_21) ?_
    show Steps p.tables e below (T4.setTop (mkF m 23 #[.val (.int p0), .val (.int p1), .val (.int p2), .val (.int p3), .val (.int p4), .unset, .unset, .unset, .unset] [(.int (32 : Int32)), (.int (3 : Int32)), (.ref b1), (.ref b1)])) t_
    exact k_
  obtain ⟨T5, h5, L5, X5, e5, N5, W5, V5, st5⟩ := aputI X4 hx hZ e4 V4 N4 gb1 (by decide) (by decide) (g := (mkF m 23 #[.val (.int p0), .val (.int p1), .val (.int p2), .val (.int p3), .val (.int p4), .unset, .unset, .unset, .unset] [(.int (32 : Int32)), (.int (3 : Int32)), (.ref b1), (.ref b1)])) rfl rfl (hb hby at_23)
  have Z5 : n0 ≤ h5.size := Nat.le_trans Z4 (Keep.of_wr W5).1
  clear W5
  refine Go.via st5 ?_
  show Go p.tables e below _ (T5.setTop (mkF m 24 #[.val (.int p0), .val (.int p1), .val (.int p2), .val (.int p3), .val (.int p4), .unset, .unset, .unset, .unset] [(.ref b1)]))
  refine Go.via (B := T5.setTop (mkF m 28 #[.val (.int p0), .val (.int p1), .val (.int p2), .val (.int p3), .val (.int p4), .unset, .unset, .unset, .unset] [(.int (55295 : Int32)), (.int (4 : Int32)), (.ref b1), (.ref b1)])) (fun t_ k_ => ?_) ?_
  · show Steps p.tables e below (T5.setTop (mkF m 24 #[.val (.int p0), .val (.int p1), .val (.int p2), .val (.int p3), .val (.int p4), .unset, .unset, .unset, .unset] [(.ref b1)])) t_
    refine XS.dup X5.here hx rfl (hb hby at_24) rfl rfl ?_
    show Steps p.tables e below (T5.setTop (mkF m 25 #[.val (.int p0), .val (.int p1), .val (.int p2), .val (.int p3), .val (.int p4), .unset, .unset, .unset, .unset] [(.ref b1), (.ref b1)])) t_
    refine XS.iconst X5.here hx rfl (hb hby at_25) ?_
    show Steps p.tables e below (T5.setTop (mkF m 26 #[.val (.int p0), .val (.int p1), .val (.int p2), .val (.int p3), .val (.int p4), .unset, .unset, .unset, .unset] [(.int (4 : Int32)), (.ref b1), (.ref b1)])) t_
    refine X5.ldcInt hx hown (mvT hZ (hw _ (List.mem_of_getElem? (i := 1) rfl))) (g := (mkF m 26 #[.val (.int p0), .val (.int p1), .val (.int p2), .val (.int p3), .val (.int p4), .unset, .unset, .unset, .unset] [(.int (4 : Int32)), (.ref b1), (.ref b1)])) rfl (hb hby at_26) _ ?_
    show Steps p.tables e below (T5.setTop (mkF m 28 #[.val (.int p0), .val (.int p1), .val (.int p2), .val (.int p3), .val (.int p4), .unset, .unset, .unset, .unset] [(.int (55295 : Int32)), (.int (4 : Int32)), (.ref b1), (.ref b1)])) t_
    exact k_
  obtain ⟨T6, h6, L6, X6, e6, N6, W6, V6, st6⟩ := aputI X5 hx hZ e5 V5 N5 gb1 (by decide) (by decide) (g := (mkF m 28 #[.val (.int p0), .val (.int p1), .val (.int p2), .val (.int p3), .val (.int p4), .unset, .unset, .unset, .unset] [(.int (55295 : Int32)), (.int (4 : Int32)), (.ref b1), (.ref b1)])) rfl rfl (hb hby at_28)
  have Z6 : n0 ≤ h6.size := Nat.le_trans Z5 (Keep.of_wr W6).1
  clear W6
  refine Go.via st6 ?_
  show Go p.tables e below _ (T6.setTop (mkF m 29 #[.val (.int p0), .val (.int p1), .val (.int p2), .val (.int p3), .val (.int p4), .unset, .unset, .unset, .unset] [(.ref b1)]))
  refine Go.via (B := T6.setTop (mkF m 33 #[.val (.int p0), .val (.int p1), .val (.int p2), .val (.int p3), .val (.int p4), .unset, .unset, .unset, .unset] [(.int (57344 : Int32)), (.int (5 : Int32)), (.ref b1), (.ref b1)])) (fun t_ k_ => ?_) ?_
  · show Steps p.tables e below (T6.setTop (mkF m 29 #[.val (.int p0), .val (.int p1), .val (.int p2), .val (.int p3), .val (.int p4), .unset, .unset, .unset, .unset] [(.ref b1)])) t_
    refine XS.dup X6.here hx rfl (hb hby at_29) rfl rfl ?_
    show Steps p.tables e below (T6.setTop (mkF m 30 #[.val (.int p0), .val (.int p1), .val (.int p2), .val (.int p3), .val (.int p4), .unset, .unset, .unset, .unset] [(.ref b1), (.ref b1)])) t_
    refine XS.iconst X6.here hx rfl (hb hby at_30) ?_
    show Steps p.tables e below (T6.setTop (mkF m 31 #[.val (.int p0), .val (.int p1), .val (.int p2), .val (.int p3), .val (.int p4), .unset, .unset, .unset, .unset] [(.int (5 : Int32)), (.ref b1), (.ref b1)])) t_
    refine X6.ldcInt hx hown (mvT hZ (hw _ (List.mem_of_getElem? (i := 2) rfl))) (g := (mkF m 31 #[.val (.int p0), .val (.int p1), .val (.int p2), .val (.int p3), .val (.int p4), .unset, .unset, .unset, .unset] [(.int (5 : Int32)), (.ref b1), (.ref b1)])) rfl (hb hby at_31) _ ?_
    show Steps p.tables e below (T6.setTop (mkF m 33 #[.val (.int p0), .val (.int p1), .val (.int p2), .val (.int p3), .val (.int p4), .unset, .unset, .unset, .unset] [(.int (57344 : Int32)), (.int (5 : Int32)), (.ref b1), (.ref b1)])) t_
    exact k_
  obtain ⟨T7, h7, L7, X7, e7, N7, W7, V7, st7⟩ := aputI X6 hx hZ e6 V6 N6 gb1 (by decide) (by decide) (g := (mkF m 33 #[.val (.int p0), .val (.int p1), .val (.int p2), .val (.int p3), .val (.int p4), .unset, .unset, .unset, .unset] [(.int (57344 : Int32)), (.int (5 : Int32)), (.ref b1), (.ref b1)])) rfl rfl (hb hby at_33)
  have Z7 : n0 ≤ h7.size := Nat.le_trans Z6 (Keep.of_wr W7).1
  clear W7
  refine Go.via st7 ?_
  show Go p.tables e below _ (T7.setTop (mkF m 34 #[.val (.int p0), .val (.int p1), .val (.int p2), .val (.int p3), .val (.int p4), .unset, .unset, .unset, .unset] [(.ref b1)]))
  refine Go.via (B := T7.setTop (mkF m 39 #[.val (.int p0), .val (.int p1), .val (.int p2), .val (.int p3), .val (.int p4), .unset, .unset, .unset, .unset] [(.int (65533 : Int32)), (.int (6 : Int32)), (.ref b1), (.ref b1)])) (fun t_ k_ => ?_) ?_
  · show Steps p.tables e below (T7.setTop (mkF m 34 #[.val (.int p0), .val (.int p1), .val (.int p2), .val (.int p3), .val (.int p4), .unset, .unset, .unset, .unset] [(.ref b1)])) t_
    refine XS.dup X7.here hx rfl (hb hby at_34) rfl rfl ?_
    show Steps p.tables e below (T7.setTop (mkF m 35 #[.val (.int p0), .val (.int p1), .val (.int p2), .val (.int p3), .val (.int p4), .unset, .unset, .unset, .unset] [(.ref b1), (.ref b1)])) t_
    refine XS.bipush X7.here hx rfl (hb hby at_35) ?_
    show Steps p.tables e below (T7.setTop (mkF m 37 #[.val (.int p0), .val (.int p1), .val (.int p2), .val (.int p3), .val (.int p4), .unset, .unset, .unset, .unset] [(.int (6 : Int32)), (.ref b1), (.ref b1)])) t_
    refine X7.ldcInt hx hown (mvT hZ (hw _ (List.mem_of_getElem? (i := 3) rfl))) (g := (mkF m 37 #[.val (.int p0), .val (.int p1), .val (.int p2), .val (.int p3), .val (.int p4), .unset, .unset, .unset, .unset] [(.int (6 : Int32)), (.ref b1), (.ref b1)])) rfl (hb hby at_37) _ ?_
    show Steps p.tables e below (T7.setTop (mkF m 39 #[.val (.int p0), .val (.int p1), .val (.int p2), .val (.int p3), .val (.int p4), .unset, .unset, .unset, .unset] [(.int (65533 : Int32)), (.int (6 : Int32)), (.ref b1), (.ref b1)])) t_
    exact k_
  obtain ⟨T8, h8, L8, X8, e8, N8, W8, V8, st8⟩ := aputI X7 hx hZ e7 V7 N7 gb1 (by decide) (by decide) (g := (mkF m 39 #[.val (.int p0), .val (.int p1), .val (.int p2), .val (.int p3), .val (.int p4), .unset, .unset, .unset, .unset] [(.int (65533 : Int32)), (.int (6 : Int32)), (.ref b1), (.ref b1)])) rfl rfl (hb hby at_39)
  have Z8 : n0 ≤ h8.size := Nat.le_trans Z7 (Keep.of_wr W8).1
  clear W8
  refine Go.via st8 ?_
  show Go p.tables e below _ (T8.setTop (mkF m 40 #[.val (.int p0), .val (.int p1), .val (.int p2), .val (.int p3), .val (.int p4), .unset, .unset, .unset, .unset] [(.ref b1)]))
  refine Go.via (B := T8.setTop (mkF m 45 #[.val (.int p0), .val (.int p1), .val (.int p2), .val (.int p3), .val (.int p4), .unset, .unset, .unset, .unset] [(.int (65536 : Int32)), (.int (7 : Int32)), (.ref b1), (.ref b1)])) (fun t_ k_ => ?_) ?_
  · show Steps p.tables e below (T8.setTop (mkF m 40 #[.val (.int p0), .val (.int p1), .val (.int p2), .val (.int p3), .val (.int p4), .unset, .unset, .unset, .unset] [(.ref b1)])) t_
    refine XS.dup X8.here hx rfl (hb hby at_40) rfl rfl ?_
    show Steps p.tables e below (T8.setTop (mkF m 41 #[.val (.int p0), .val (.int p1), .val (.int p2), .val (.int p3), .val (.int p4), .unset, .unset, .unset, .unset] [(.ref b1), (.ref b1)])) t_
    refine XS.bipush X8.here hx rfl (hb hby at_41) ?_
    show Steps p.tables e below (T8.setTop (mkF m 43 #[.val (.int p0), .val (.int p1), .val (.int p2), .val (.int p3), .val (.int p4), .unset, .unset, .unset, .unset] [(.int (7 : Int32)), (.ref b1), (.ref b1)])) t_
    refine X8.ldcInt hx hown (mvT hZ (hw _ (List.mem_of_getElem? (i := 4) rfl))) (g := (mkF m 43 #[.val (.int p0), .val (.int p1), .val (.int p2), .val (.int p3), .val (.int p4), .unset, .unset, .unset, .unset] [(.int (7 : Int32)), (.ref b1), (.ref b1)])) rfl (hb hby at_43) _ ?_
    show Steps p.tables e below (T8.setTop (mkF m 45 #[.val (.int p0), .val (.int p1), .val (.int p2), .val (.int p3), .val (.int p4), .unset, .unset, .unset, .unset] [(.int (65536 : Int32)), (.int (7 : Int32)), (.ref b1), (.ref b1)])) t_
    exact k_
  obtain ⟨T9, h9, L9, X9, e9, N9, W9, V9, st9⟩ := aputI X8 hx hZ e8 V8 N8 gb1 (by decide) (by decide) (g := (mkF m 45 #[.val (.int p0), .val (.int p1), .val (.int p2), .val (.int p3), .val (.int p4), .unset, .unset, .unset, .unset] [(.int (65536 : Int32)), (.int (7 : Int32)), (.ref b1), (.ref b1)])) rfl rfl (hb hby at_45)
  have Z9 : n0 ≤ h9.size := Nat.le_trans Z8 (Keep.of_wr W9).1
  clear W9
  refine Go.via st9 ?_
  show Go p.tables e below _ (T9.setTop (mkF m 46 #[.val (.int p0), .val (.int p1), .val (.int p2), .val (.int p3), .val (.int p4), .unset, .unset, .unset, .unset] [(.ref b1)]))
  refine Go.via (B := T9.setTop (mkF m 51 #[.val (.int p0), .val (.int p1), .val (.int p2), .val (.int p3), .val (.int p4), .unset, .unset, .unset, .unset] [(.int (1114111 : Int32)), (.int (8 : Int32)), (.ref b1), (.ref b1)])) (fun t_ k_ => ?_) ?_
  · show Steps p.tables e below (T9.setTop (mkF m 46 #[.val (.int p0), .val (.int p1), .val (.int p2), .val (.int p3), .val (.int p4), .unset, .unset, .unset, .unset] [(.ref b1)])) t_
    refine XS.dup X9.here hx rfl (hb hby at_46) rfl rfl ?_
    show Steps p.tables e below (T9.setTop (mkF m 47 #[.val (.int p0), .val (.int p1), .val (.int p2), .val (.int p3), .val (.int p4), .unset, .unset, .unset, .unset] [(.ref b1), (.ref b1)])) t_
    refine XS.bipush X9.here hx rfl (hb hby at_47) ?_
    show Steps p.tables e below (T9.setTop (mkF m 49 #[.val (.int p0), .val (.int p1), .val (.int p2), .val (.int p3), .val (.int p4), .unset, .unset, .unset, .unset] [(.int (8 : Int32)), (.ref b1), (.ref b1)])) t_
    refine X9.ldcInt hx hown (mvT hZ (hw _ (List.mem_of_getElem? (i := 5) rfl))) (g := (mkF m 49 #[.val (.int p0), .val (.int p1), .val (.int p2), .val (.int p3), .val (.int p4), .unset, .unset, .unset, .unset] [(.int (8 : Int32)), (.ref b1), (.ref b1)])) rfl (hb hby at_49) _ ?_
    show Steps p.tables e below (T9.setTop (mkF m 51 #[.val (.int p0), .val (.int p1), .val (.int p2), .val (.int p3), .val (.int p4), .unset, .unset, .unset, .unset] [(.int (1114111 : Int32)), (.int (8 : Int32)), (.ref b1), (.ref b1)])) t_
    exact k_
  obtain ⟨T10, h10, L10, X10, e10, N10, W10, V10, st10⟩ := aputI X9 hx hZ e9 V9 N9 gb1 (by decide) (by decide) (g := (mkF m 51 #[.val (.int p0), .val (.int p1), .val (.int p2), .val (.int p3), .val (.int p4), .unset, .unset, .unset, .unset] [(.int (1114111 : Int32)), (.int (8 : Int32)), (.ref b1), (.ref b1)])) rfl rfl (hb hby at_51)
  have Z10 : n0 ≤ h10.size := Nat.le_trans Z9 (Keep.of_wr W10).1
  clear W10
  refine Go.via st10 ?_
  show Go p.tables e below _ (T10.setTop (mkF m 52 #[.val (.int p0), .val (.int p1), .val (.int p2), .val (.int p3), .val (.int p4), .unset, .unset, .unset, .unset] [(.ref b1)]))
  refine Go.via (B := T10.setTop (mkF m 56 #[.val (.int p0), .val (.int p1), .val (.int p2), .val (.int p3), .val (.int p4), .unset, .unset, .unset, .unset] [(.int (0 : Int32)), (.int (9 : Int32)), (.ref b1), (.ref b1)])) (fun t_ k_ => ?_) ?_
  · show Steps p.tables e below (T10.setTop (mkF m 52 #[.val (.int p0), .val (.int p1), .val (.int p2), .val (.int p3), .val (.int p4), .unset, .unset, .unset, .unset] [(.ref b1)])) t_
    refine XS.dup X10.here hx rfl (hb hby at_52) rfl rfl ?_
    show Steps p.tables e below (T10.setTop (mkF m 53 #[.val (.int p0), .val (.int p1), .val (.int p2), .val (.int p3), .val (.int p4), .unset, .unset, .unset, .unset] [(.ref b1), (.ref b1)])) t_
    refine XS.bipush X10.here hx rfl (hb hby at_53) ?_
    show Steps p.tables e below (T10.setTop (mkF m 55 #[.val (.int p0), .val (.int p1), .val (.int p2), .val (.int p3), .val (.int p4), .unset, .unset, .unset, .unset] [(.int (9 : Int32)), (.ref b1), (.ref b1)])) t_
    refine XS.iconst X10.here hx rfl (hb hby at_55) ?_
    show Steps p.tables e below (T10.setTop (mkF m 56 #[.val (.int p0), .val (.int p1), .val (.int p2), .val (.int p3), .val (.int p4), .unset, .unset, .unset, .unset] [(.int (0 : Int32)), (.int (9 : Int32)), (.ref b1), (.ref b1)])) t_
    exact k_
  obtain ⟨T11, h11, L11, X11, e11, N11, W11, V11, st11⟩ := aputI X10 hx hZ e10 V10 N10 gb1 (by decide) (by decide) (g := (mkF m 56 #[.val (.int p0), .val (.int p1), .val (.int p2), .val (.int p3), .val (.int p4), .unset, .unset, .unset, .unset] [(.int (0 : Int32)), (.int (9 : Int32)), (.ref b1), (.ref b1)])) rfl rfl (hb hby at_56)
  have Z11 : n0 ≤ h11.size := Nat.le_trans Z10 (Keep.of_wr W11).1
  clear W11
  refine Go.via st11 ?_
  show Go p.tables e below _ (T11.setTop (mkF m 57 #[.val (.int p0), .val (.int p1), .val (.int p2), .val (.int p3), .val (.int p4), .unset, .unset, .unset, .unset] [(.ref b1)]))
  refine Go.via (B := T11.setTop (mkF m 62 #[.val (.int p0), .val (.int p1), .val (.int p2), .val (.int p3), .val (.int p4), .unset, .unset, .unset, .unset] [(.int (-2147483648 : Int32)), (.int (10 : Int32)), (.ref b1), (.ref b1)])) (fun t_ k_ => ?_) ?_
  · show Steps p.tables e below (T11.setTop (mkF m 57 #[.val (.int p0), .val (.int p1), .val (.int p2), .val (.int p3), .val (.int p4), .unset, .unset, .unset, .unset] [(.ref b1)])) t_
    refine XS.dup X11.here hx rfl (hb hby at_57) rfl rfl ?_
    show Steps p.tables e below (T11.setTop (mkF m 58 #[.val (.int p0), .val (.int p1), .val (.int p2), .val (.int p3), .val (.int p4), .unset, .unset, .unset, .unset] [(.ref b1), (.ref b1)])) t_
    refine XS.bipush X11.here hx rfl (hb hby at_58) ?_
    show Steps p.tables e below (T11.setTop (mkF m 60 #[.val (.int p0), .val (.int p1), .val (.int p2), .val (.int p3), .val (.int p4), .unset, .unset, .unset, .unset] [(.int (10 : Int32)), (.ref b1), (.ref b1)])) t_
    refine X11.ldcInt hx hown (mvT hZ (hw _ (List.mem_of_getElem? (i := 6) rfl))) (g := (mkF m 60 #[.val (.int p0), .val (.int p1), .val (.int p2), .val (.int p3), .val (.int p4), .unset, .unset, .unset, .unset] [(.int (10 : Int32)), (.ref b1), (.ref b1)])) rfl (hb hby at_60) _ ?_
    show Steps p.tables e below (T11.setTop (mkF m 62 #[.val (.int p0), .val (.int p1), .val (.int p2), .val (.int p3), .val (.int p4), .unset, .unset, .unset, .unset] [(.int (-2147483648 : Int32)), (.int (10 : Int32)), (.ref b1), (.ref b1)])) t_
    exact k_
  obtain ⟨T12, h12, L12, X12, e12, N12, W12, V12, st12⟩ := aputI X11 hx hZ e11 V11 N11 gb1 (by decide) (by decide) (g := (mkF m 62 #[.val (.int p0), .val (.int p1), .val (.int p2), .val (.int p3), .val (.int p4), .unset, .unset, .unset, .unset] [(.int (-2147483648 : Int32)), (.int (10 : Int32)), (.ref b1), (.ref b1)])) rfl rfl (hb hby at_62)
  have Z12 : n0 ≤ h12.size := Nat.le_trans Z11 (Keep.of_wr W12).1
  clear W12
  refine Go.via st12 ?_
  show Go p.tables e below _ (T12.setTop (mkF m 63 #[.val (.int p0), .val (.int p1), .val (.int p2), .val (.int p3), .val (.int p4), .unset, .unset, .unset, .unset] [(.ref b1)]))
  refine Go.via (B := T12.setTop (mkF m 68 #[.val (.int p0), .val (.int p1), .val (.int p2), .val (.int p3), .val (.int p4), .unset, .unset, .unset, .unset] [(.int (2147483647 : Int32)), (.int (11 : Int32)), (.ref b1), (.ref b1)])) (fun t_ k_ => ?_) ?_
  · show Steps p.tables e below (T12.setTop (mkF m 63 #[.val (.int p0), .val (.int p1), .val (.int p2), .val (.int p3), .val (.int p4), .unset, .unset, .unset, .unset] [(.ref b1)])) t_
    refine XS.dup X12.here hx rfl (hb hby at_63) rfl rfl ?_
    show Steps p.tables e below (T12.setTop (mkF m 64 #[.val (.int p0), .val (.int p1), .val (.int p2), .val (.int p3), .val (.int p4), .unset, .unset, .unset, .unset] [(.ref b1), (.ref b1)])) t_
    refine XS.bipush X12.here hx rfl (hb hby at_64) ?_
    show Steps p.tables e below (T12.setTop (mkF m 66 #[.val (.int p0), .val (.int p1), .val (.int p2), .val (.int p3), .val (.int p4), .unset, .unset, .unset, .unset] [(.int (11 : Int32)), (.ref b1), (.ref b1)])) t_
    refine X12.ldcInt hx hown (mvT hZ (hw _ (List.mem_of_getElem? (i := 7) rfl))) (g := (mkF m 66 #[.val (.int p0), .val (.int p1), .val (.int p2), .val (.int p3), .val (.int p4), .unset, .unset, .unset, .unset] [(.int (11 : Int32)), (.ref b1), (.ref b1)])) rfl (hb hby at_66) _ ?_
    show Steps p.tables e below (T12.setTop (mkF m 68 #[.val (.int p0), .val (.int p1), .val (.int p2), .val (.int p3), .val (.int p4), .unset, .unset, .unset, .unset] [(.int (2147483647 : Int32)), (.int (11 : Int32)), (.ref b1), (.ref b1)])) t_
    exact k_
  obtain ⟨T13, h13, L13, X13, e13, N13, W13, V13, st13⟩ := aputI X12 hx hZ e12 V12 N12 gb1 (by decide) (by decide) (g := (mkF m 68 #[.val (.int p0), .val (.int p1), .val (.int p2), .val (.int p3), .val (.int p4), .unset, .unset, .unset, .unset] [(.int (2147483647 : Int32)), (.int (11 : Int32)), (.ref b1), (.ref b1)])) rfl rfl (hb hby at_68)
  have Z13 : n0 ≤ h13.size := Nat.le_trans Z12 (Keep.of_wr W13).1
  clear W13
  refine Go.via st13 ?_
  show Go p.tables e below _ (T13.setTop (mkF m 69 #[.val (.int p0), .val (.int p1), .val (.int p2), .val (.int p3), .val (.int p4), .unset, .unset, .unset, .unset] [(.ref b1)]))
  refine Go.via (B := T13.setTop (mkF m 74 #[.val (.int p0), .val (.int p1), .val (.int p2), .val (.int p3), .val (.int p4), .unset, .unset, .unset, .unset] [(.int (55296 : Int32)), (.int (12 : Int32)), (.ref b1), (.ref b1)])) (fun t_ k_ => ?_) ?_
  · show Steps p.tables e below (T13.setTop (mkF m 69 #[.val (.int p0), .val (.int p1), .val (.int p2), .val (.int p3), .val (.int p4), .unset, .unset, .unset, .unset] [(.ref b1)])) t_
    refine XS.dup X13.here hx rfl (hb hby at_69) rfl rfl ?_
    show Steps p.tables e below (T13.setTop (mkF m 70 #[.val (.int p0), .val (.int p1), .val (.int p2), .val (.int p3), .val (.int p4), .unset, .unset, .unset, .unset] [(.ref b1), (.ref b1)])) t_
    refine XS.bipush X13.here hx rfl (hb hby at_70) ?_
    show Steps p.tables e below (T13.setTop (mkF m 72 #[.val (.int p0), .val (.int p1), .val (.int p2), .val (.int p3), .val (.int p4), .unset, .unset, .unset, .unset] [(.int (12 : Int32)), (.ref b1), (.ref b1)])) t_
    refine X13.ldcInt hx hown (mvT hZ (hw _ (List.mem_of_getElem? (i := 8) rfl))) (g := (mkF m 72 #[.val (.int p0), .val (.int p1), .val (.int p2), .val (.int p3), .val (.int p4), .unset, .unset, .unset, .unset] [(.int (12 : Int32)), (.ref b1), (.ref b1)])) rfl (hb hby at_72) _ ?_
    show Steps p.tables e below (T13.setTop (mkF m 74 #[.val (.int p0), .val (.int p1), .val (.int p2), .val (.int p3), .val (.int p4), .unset, .unset, .unset, .unset] [(.int (55296 : Int32)), (.int (12 : Int32)), (.ref b1), (.ref b1)])) t_
    exact k_
  obtain ⟨T14, h14, L14, X14, e14, N14, W14, V14, st14⟩ := aputI X13 hx hZ e13 V13 N13 gb1 (by decide) (by decide) (g := (mkF m 74 #[.val (.int p0), .val (.int p1), .val (.int p2), .val (.int p3), .val (.int p4), .unset, .unset, .unset, .unset] [(.int (55296 : Int32)), (.int (12 : Int32)), (.ref b1), (.ref b1)])) rfl rfl (hb hby at_74)
  have Z14 : n0 ≤ h14.size := Nat.le_trans Z13 (Keep.of_wr W14).1
  clear W14
  refine Go.via st14 ?_
  show Go p.tables e below _ (T14.setTop (mkF m 75 #[.val (.int p0), .val (.int p1), .val (.int p2), .val (.int p3), .val (.int p4), .unset, .unset, .unset, .unset] [(.ref b1)]))
  refine Go.via (B := T14.setTop (mkF m 80 #[.val (.int p0), .val (.int p1), .val (.int p2), .val (.int p3), .val (.int p4), .unset, .unset, .unset, .unset] [(.int (57343 : Int32)), (.int (13 : Int32)), (.ref b1), (.ref b1)])) (fun t_ k_ => ?_) ?_
  · show Steps p.tables e below (T14.setTop (mkF m 75 #[.val (.int p0), .val (.int p1), .val (.int p2), .val (.int p3), .val (.int p4), .unset, .unset, .unset, .unset] [(.ref b1)])) t_
    refine XS.dup X14.here hx rfl (hb hby at_75) rfl rfl ?_
    show Steps p.tables e below (T14.setTop (mkF m 76 #[.val (.int p0), .val (.int p1), .val (.int p2), .val (.int p3), .val (.int p4), .unset, .unset, .unset, .unset] [(.ref b1), (.ref b1)])) t_
    refine XS.bipush X14.here hx rfl (hb hby at_76) ?_
    show Steps p.tables e below (T14.setTop (mkF m 78 #[.val (.int p0), .val (.int p1), .val (.int p2), .val (.int p3), .val (.int p4), .unset, .unset, .unset, .unset] [(.int (13 : Int32)), (.ref b1), (.ref b1)])) t_
    refine X14.ldcInt hx hown (mvT hZ (hw _ (List.mem_of_getElem? (i := 9) rfl))) (g := (mkF m 78 #[.val (.int p0), .val (.int p1), .val (.int p2), .val (.int p3), .val (.int p4), .unset, .unset, .unset, .unset] [(.int (13 : Int32)), (.ref b1), (.ref b1)])) rfl (hb hby at_78) _ ?_
    show Steps p.tables e below (T14.setTop (mkF m 80 #[.val (.int p0), .val (.int p1), .val (.int p2), .val (.int p3), .val (.int p4), .unset, .unset, .unset, .unset] [(.int (57343 : Int32)), (.int (13 : Int32)), (.ref b1), (.ref b1)])) t_
    exact k_
  obtain ⟨T15, h15, L15, X15, e15, N15, W15, V15, st15⟩ := aputI X14 hx hZ e14 V14 N14 gb1 (by decide) (by decide) (g := (mkF m 80 #[.val (.int p0), .val (.int p1), .val (.int p2), .val (.int p3), .val (.int p4), .unset, .unset, .unset, .unset] [(.int (57343 : Int32)), (.int (13 : Int32)), (.ref b1), (.ref b1)])) rfl rfl (hb hby at_80)
  have Z15 : n0 ≤ h15.size := Nat.le_trans Z14 (Keep.of_wr W15).1
  clear W15
  refine Go.via st15 ?_
  show Go p.tables e below _ (T15.setTop (mkF m 81 #[.val (.int p0), .val (.int p1), .val (.int p2), .val (.int p3), .val (.int p4), .unset, .unset, .unset, .unset] [(.ref b1)]))
  refine Go.via (B := T15.setTop (mkF m 86 #[.val (.int p0), .val (.int p1), .val (.int p2), .val (.int p3), .val (.int p4), .unset, .unset, .unset, .unset] [(.int (65534 : Int32)), (.int (14 : Int32)), (.ref b1), (.ref b1)])) (fun t_ k_ => ?_) ?_
  · show Steps p.tables e below (T15.setTop (mkF m 81 #[.val (.int p0), .val (.int p1), .val (.int p2), .val (.int p3), .val (.int p4), .unset, .unset, .unset, .unset] [(.ref b1)])) t_
    refine XS.dup X15.here hx rfl (hb hby at_81) rfl rfl ?_
    show Steps p.tables e below (T15.setTop (mkF m 82 #[.val (.int p0), .val (.int p1), .val (.int p2), .val (.int p3), .val (.int p4), .unset, .unset, .unset, .unset] [(.ref b1), (.ref b1)])) t_
    refine XS.bipush X15.here hx rfl (hb hby at_82) ?_
    show Steps p.tables e below (T15.setTop (mkF m 84 #[.val (.int p0), .val (.int p1), .val (.int p2), .val (.int p3), .val (.int p4), .unset, .unset, .unset, .unset] [(.int (14 : Int32)), (.ref b1), (.ref b1)])) t_
    refine X15.ldcInt hx hown (mvT hZ (hw _ (List.mem_of_getElem? (i := 10) rfl))) (g := (mkF m 84 #[.val (.int p0), .val (.int p1), .val (.int p2), .val (.int p3), .val (.int p4), .unset, .unset, .unset, .unset] [(.int (14 : Int32)), (.ref b1), (.ref b1)])) rfl (hb hby at_84) _ ?_
    show Steps p.tables e below (T15.setTop (mkF m 86 #[.val (.int p0), .val (.int p1), .val (.int p2), .val (.int p3), .val (.int p4), .unset, .unset, .unset, .unset] [(.int (65534 : Int32)), (.int (14 : Int32)), (.ref b1), (.ref b1)])) t_
    exact k_
  obtain ⟨T16, h16, L16, X16, e16, N16, W16, V16, st16⟩ := aputI X15 hx hZ e15 V15 N15 gb1 (by decide) (by decide) (g := (mkF m 86 #[.val (.int p0), .val (.int p1), .val (.int p2), .val (.int p3), .val (.int p4), .unset, .unset, .unset, .unset] [(.int (65534 : Int32)), (.int (14 : Int32)), (.ref b1), (.ref b1)])) rfl rfl (hb hby at_86)
  have Z16 : n0 ≤ h16.size := Nat.le_trans Z15 (Keep.of_wr W16).1
  clear W16
  refine Go.via st16 ?_
  show Go p.tables e below _ (T16.setTop (mkF m 87 #[.val (.int p0), .val (.int p1), .val (.int p2), .val (.int p3), .val (.int p4), .unset, .unset, .unset, .unset] [(.ref b1)]))
  refine Go.via (B := T16.setTop (mkF m 92 #[.val (.int p0), .val (.int p1), .val (.int p2), .val (.int p3), .val (.int p4), .unset, .unset, .unset, .unset] [(.int (11 : Int32)), (.int (15 : Int32)), (.ref b1), (.ref b1)])) (fun t_ k_ => ?_) ?_
  · show Steps p.tables e below (T16.setTop (mkF m 87 #[.val (.int p0), .val (.int p1), .val (.int p2), .val (.int p3), .val (.int p4), .unset, .unset, .unset, .unset] [(.ref b1)])) t_
    refine XS.dup X16.here hx rfl (hb hby at_87) rfl rfl ?_
    show Steps p.tables e below (T16.setTop (mkF m 88 #[.val (.int p0), .val (.int p1), .val (.int p2), .val (.int p3), .val (.int p4), .unset, .unset, .unset, .unset] [(.ref b1), (.ref b1)])) t_
    refine XS.bipush X16.here hx rfl (hb hby at_88) ?_
    show Steps p.tables e below (T16.setTop (mkF m 90 #[.val (.int p0), .val (.int p1), .val (.int p2), .val (.int p3), .val (.int p4), .unset, .unset, .unset, .unset] [(.int (15 : Int32)), (.ref b1), (.ref b1)])) t_
    refine XS.bipush X16.here hx rfl (hb hby at_90) ?_
    show Steps p.tables e below (T16.setTop (mkF m 92 #[.val (.int p0), .val (.int p1), .val (.int p2), .val (.int p3), .val (.int p4), .unset, .unset, .unset, .unset] [(.int (11 : Int32)), (.int (15 : Int32)), (.ref b1), (.ref b1)])) t_
    exact k_
  obtain ⟨T17, h17, L17, X17, e17, N17, W17, V17, st17⟩ := aputI X16 hx hZ e16 V16 N16 gb1 (by decide) (by decide) (g := (mkF m 92 #[.val (.int p0), .val (.int p1), .val (.int p2), .val (.int p3), .val (.int p4), .unset, .unset, .unset, .unset] [(.int (11 : Int32)), (.int (15 : Int32)), (.ref b1), (.ref b1)])) rfl rfl (hb hby at_92)
  have Z17 : n0 ≤ h17.size := Nat.le_trans Z16 (Keep.of_wr W17).1
  clear W17
  refine Go.via st17 ?_
  show Go p.tables e below _ (T17.setTop (mkF m 93 #[.val (.int p0), .val (.int p1), .val (.int p2), .val (.int p3), .val (.int p4), .unset, .unset, .unset, .unset] [(.ref b1)]))
  refine Go.via (B := T17.setTop (mkF m 101 #[.val (.int p0), .val (.int p1), .val (.int p2), .val (.int p3), .val (.int p4), .val (.ref b1), .unset, .unset, .unset] [(.int (p3 &&& (15 : Int32))), (.ref b1)])) (fun t_ k_ => ?_) ?_
  · show Steps p.tables e below (T17.setTop (mkF m 93 #[.val (.int p0), .val (.int p1), .val (.int p2), .val (.int p3), .val (.int p4), .unset, .unset, .unset, .unset] [(.ref b1)])) t_
    refine XS.astore X17.here hx rfl (hb hby at_93) rfl rfl (l' := #[.val (.int p0), .val (.int p1), .val (.int p2), .val (.int p3), .val (.int p4), .val (.ref b1), .unset, .unset, .unset]) rfl ?_
    show Steps p.tables e below (T17.setTop (mkF m 95 #[.val (.int p0), .val (.int p1), .val (.int p2), .val (.int p3), .val (.int p4), .val (.ref b1), .unset, .unset, .unset] [])) t_
    refine XS.aload X17.here hx rfl (hb hby at_95) rfl rfl ?_
    show Steps p.tables e below (T17.setTop (mkF m 97 #[.val (.int p0), .val (.int p1), .val (.int p2), .val (.int p3), .val (.int p4), .val (.ref b1), .unset, .unset, .unset] [(.ref b1)])) t_
    refine XS.iloadN X17.here hx rfl (hb hby at_97) rfl ?_
    show Steps p.tables e below (T17.setTop (mkF m 98 #[.val (.int p0), .val (.int p1), .val (.int p2), .val (.int p3), .val (.int p4), .val (.ref b1), .unset, .unset, .unset] [(.int p3), (.ref b1)])) t_
    refine XS.bipush X17.here hx rfl (hb hby at_98) ?_
    show Steps p.tables e below (T17.setTop (mkF m 100 #[.val (.int p0), .val (.int p1), .val (.int p2), .val (.int p3), .val (.int p4), .val (.ref b1), .unset, .unset, .unset] [(.int (15 : Int32)), (.int p3), (.ref b1)])) t_
    refine XS.iand X17.here hx rfl (hb hby at_100) rfl ?_
    show Steps p.tables e below (T17.setTop (mkF m 101 #[.val (.int p0), .val (.int p1), .val (.int p2), .val (.int p3), .val (.int p4), .val (.ref b1), .unset, .unset, .unset] [(.int (p3 &&& (15 : Int32))), (.ref b1)])) t_
    exact k_
  obtain ⟨cl, Ar, S, B, H⟩ := id V17
  obtain ⟨q, hq⟩ : ∃ q : Int32, cl.slots[((p3 &&& (15 : Int32))).toNatClampNeg]? = some (.int q) := ⟨_, (H _ (own_idx p3).2).1⟩
  refine Go.via (B := T17.setTop (mkF m 102 #[.val (.int p0), .val (.int p1), .val (.int p2), .val (.int p3), .val (.int p4), .val (.ref b1), .unset, .unset, .unset] [(.int q)])) (fun t_ k_ => X17.iaload hx (j := (p3 &&& (15 : Int32))) (v := .int q) (by rw [e17]; exact Ar.1) (State.isArrayOf_alike hZ.alike Ar.2.1) Ar.2.2 (by rw [S]; intro u; rcases u with u | u; exact (own_idx p3).1 u; exact absurd (own_idx p3).2 (Nat.not_lt.mpr u)) hq (g := (mkF m 101 #[.val (.int p0), .val (.int p1), .val (.int p2), .val (.int p3), .val (.int p4), .val (.ref b1), .unset, .unset, .unset] [(.int (p3 &&& (15 : Int32))), (.ref b1)])) rfl rfl (hb hby at_101) t_ k_) ?_
  refine Go.via (B := T17.setTop (mkF m 126 #[.val (.int p0), .val (.int p1), .val (.int p2), .val (.int p3), .val (.int p4), .val (.ref b1), .val (.int (q + (((p4 &&& (2147483647 : Int32)) % (3 : Int32)) - (1 : Int32)))), .val (.int (p1 &&& (2097151 : Int32))), .val (.int (p2 &&& (63 : Int32)))] [])) (fun t_ k_ => ?_) ?_
  · show Steps p.tables e below (T17.setTop (mkF m 102 #[.val (.int p0), .val (.int p1), .val (.int p2), .val (.int p3), .val (.int p4), .val (.ref b1), .unset, .unset, .unset] [(.int q)])) t_
    refine XS.iload X17.here hx rfl (hb hby at_102) rfl ?_
    show Steps p.tables e below (T17.setTop (mkF m 104 #[.val (.int p0), .val (.int p1), .val (.int p2), .val (.int p3), .val (.int p4), .val (.ref b1), .unset, .unset, .unset] [(.int p4), (.int q)])) t_
    refine X17.ldcInt hx hown (mvT hZ (hw _ (List.mem_of_getElem? (i := 7) rfl))) (g := (mkF m 104 #[.val (.int p0), .val (.int p1), .val (.int p2), .val (.int p3), .val (.int p4), .val (.ref b1), .unset, .unset, .unset] [(.int p4), (.int q)])) rfl (hb hby at_104) _ ?_
    show Steps p.tables e below (T17.setTop (mkF m 106 #[.val (.int p0), .val (.int p1), .val (.int p2), .val (.int p3), .val (.int p4), .val (.ref b1), .unset, .unset, .unset] [(.int (2147483647 : Int32)), (.int p4), (.int q)])) t_
    refine XS.iand X17.here hx rfl (hb hby at_106) rfl ?_
    show Steps p.tables e below (T17.setTop (mkF m 107 #[.val (.int p0), .val (.int p1), .val (.int p2), .val (.int p3), .val (.int p4), .val (.ref b1), .unset, .unset, .unset] [(.int (p4 &&& (2147483647 : Int32))), (.int q)])) t_
    refine XS.iconst X17.here hx rfl (hb hby at_107) ?_
    show Steps p.tables e below (T17.setTop (mkF m 108 #[.val (.int p0), .val (.int p1), .val (.int p2), .val (.int p3), .val (.int p4), .val (.ref b1), .unset, .unset, .unset] [(.int (3 : Int32)), (.int (p4 &&& (2147483647 : Int32))), (.int q)])) t_
    refine iremM X17 hx rfl (hb hby at_108) rfl (by decide) ?_
    show Steps p.tables e below (T17.setTop (mkF m 109 #[.val (.int p0), .val (.int p1), .val (.int p2), .val (.int p3), .val (.int p4), .val (.ref b1), .unset, .unset, .unset] [(.int ((p4 &&& (2147483647 : Int32)) % (3 : Int32))), (.int q)])) t_
    refine XS.iconst X17.here hx rfl (hb hby at_109) ?_
    show Steps p.tables e below (T17.setTop (mkF m 110 #[.val (.int p0), .val (.int p1), .val (.int p2), .val (.int p3), .val (.int p4), .val (.ref b1), .unset, .unset, .unset] [(.int (1 : Int32)), (.int ((p4 &&& (2147483647 : Int32)) % (3 : Int32))), (.int q)])) t_
    refine XS.isub X17.here hx rfl (hb hby at_110) rfl ?_
    show Steps p.tables e below (T17.setTop (mkF m 111 #[.val (.int p0), .val (.int p1), .val (.int p2), .val (.int p3), .val (.int p4), .val (.ref b1), .unset, .unset, .unset] [(.int (((p4 &&& (2147483647 : Int32)) % (3 : Int32)) - (1 : Int32))), (.int q)])) t_
    refine XS.iadd X17.here hx rfl (hb hby at_111) rfl ?_
    show Steps p.tables e below (T17.setTop (mkF m 112 #[.val (.int p0), .val (.int p1), .val (.int p2), .val (.int p3), .val (.int p4), .val (.ref b1), .unset, .unset, .unset] [(.int (q + (((p4 &&& (2147483647 : Int32)) % (3 : Int32)) - (1 : Int32))))])) t_
    refine XS.istore X17.here hx rfl (hb hby at_112) rfl (l' := #[.val (.int p0), .val (.int p1), .val (.int p2), .val (.int p3), .val (.int p4), .val (.ref b1), .val (.int (q + (((p4 &&& (2147483647 : Int32)) % (3 : Int32)) - (1 : Int32)))), .unset, .unset]) rfl ?_
    show Steps p.tables e below (T17.setTop (mkF m 114 #[.val (.int p0), .val (.int p1), .val (.int p2), .val (.int p3), .val (.int p4), .val (.ref b1), .val (.int (q + (((p4 &&& (2147483647 : Int32)) % (3 : Int32)) - (1 : Int32)))), .unset, .unset] [])) t_
    refine XS.iloadN X17.here hx rfl (hb hby at_114) rfl ?_
    show Steps p.tables e below (T17.setTop (mkF m 115 #[.val (.int p0), .val (.int p1), .val (.int p2), .val (.int p3), .val (.int p4), .val (.ref b1), .val (.int (q + (((p4 &&& (2147483647 : Int32)) % (3 : Int32)) - (1 : Int32)))), .unset, .unset] [(.int p1)])) t_
    refine X17.ldcInt hx hown (mvT hZ (hw _ (List.mem_of_getElem? (i := 11) rfl))) (g := (mkF m 115 #[.val (.int p0), .val (.int p1), .val (.int p2), .val (.int p3), .val (.int p4), .val (.ref b1), .val (.int (q + (((p4 &&& (2147483647 : Int32)) % (3 : Int32)) - (1 : Int32)))), .unset, .unset] [(.int p1)])) rfl (hb hby at_115) _ ?_
    show Steps p.tables e below (T17.setTop (mkF m 117 #[.val (.int p0), .val (.int p1), .val (.int p2), .val (.int p3), .val (.int p4), .val (.ref b1), .val (.int (q + (((p4 &&& (2147483647 : Int32)) % (3 : Int32)) - (1 : Int32)))), .unset, .unset] [(.int (2097151 : Int32)), (.int p1)])) t_
    refine XS.iand X17.here hx rfl (hb hby at_117) rfl ?_
    show Steps p.tables e below (T17.setTop (mkF m 118 #[.val (.int p0), .val (.int p1), .val (.int p2), .val (.int p3), .val (.int p4), .val (.ref b1), .val (.int (q + (((p4 &&& (2147483647 : Int32)) % (3 : Int32)) - (1 : Int32)))), .unset, .unset] [(.int (p1 &&& (2097151 : Int32)))])) t_
    refine XS.istore X17.here hx rfl (hb hby at_118) rfl (l' := #[.val (.int p0), .val (.int p1), .val (.int p2), .val (.int p3), .val (.int p4), .val (.ref b1), .val (.int (q + (((p4 &&& (2147483647 : Int32)) % (3 : Int32)) - (1 : Int32)))), .val (.int (p1 &&& (2097151 : Int32))), .unset]) rfl ?_
    show Steps p.tables e below (T17.setTop (mkF m 120 #[.val (.int p0), .val (.int p1), .val (.int p2), .val (.int p3), .val (.int p4), .val (.ref b1), .val (.int (q + (((p4 &&& (2147483647 : Int32)) % (3 : Int32)) - (1 : Int32)))), .val (.int (p1 &&& (2097151 : Int32))), .unset] [])) t_
    refine XS.iloadN X17.here hx rfl (hb hby at_120) rfl ?_
    show Steps p.tables e below (T17.setTop (mkF m 121 #[.val (.int p0), .val (.int p1), .val (.int p2), .val (.int p3), .val (.int p4), .val (.ref b1), .val (.int (q + (((p4 &&& (2147483647 : Int32)) % (3 : Int32)) - (1 : Int32)))), .val (.int (p1 &&& (2097151 : Int32))), .unset] [(.int p2)])) t_
    refine XS.bipush X17.here hx rfl (hb hby at_121) ?_
    show Steps p.tables e below (T17.setTop (mkF m 123 #[.val (.int p0), .val (.int p1), .val (.int p2), .val (.int p3), .val (.int p4), .val (.ref b1), .val (.int (q + (((p4 &&& (2147483647 : Int32)) % (3 : Int32)) - (1 : Int32)))), .val (.int (p1 &&& (2097151 : Int32))), .unset] [(.int (63 : Int32)), (.int p2)])) t_
    refine XS.iand X17.here hx rfl (hb hby at_123) rfl ?_
    show Steps p.tables e below (T17.setTop (mkF m 124 #[.val (.int p0), .val (.int p1), .val (.int p2), .val (.int p3), .val (.int p4), .val (.ref b1), .val (.int (q + (((p4 &&& (2147483647 : Int32)) % (3 : Int32)) - (1 : Int32)))), .val (.int (p1 &&& (2097151 : Int32))), .unset] [(.int (p2 &&& (63 : Int32)))])) t_
    refine XS.istore X17.here hx rfl (hb hby at_124) rfl (l' := #[.val (.int p0), .val (.int p1), .val (.int p2), .val (.int p3), .val (.int p4), .val (.ref b1), .val (.int (q + (((p4 &&& (2147483647 : Int32)) % (3 : Int32)) - (1 : Int32)))), .val (.int (p1 &&& (2097151 : Int32))), .val (.int (p2 &&& (63 : Int32)))]) rfl ?_
    show Steps p.tables e below (T17.setTop (mkF m 126 #[.val (.int p0), .val (.int p1), .val (.int p2), .val (.int p3), .val (.int p4), .val (.ref b1), .val (.int (q + (((p4 &&& (2147483647 : Int32)) % (3 : Int32)) - (1 : Int32)))), .val (.int (p1 &&& (2097151 : Int32))), .val (.int (p2 &&& (63 : Int32)))] [])) t_
    exact k_
  obtain ⟨edge, hedge⟩ : ∃ z : Int32, z = (q + (((p4 &&& (2147483647 : Int32)) % (3 : Int32)) - (1 : Int32))) := ⟨_, rfl⟩
  rw [← hedge]
  clear hedge
  obtain ⟨wide, hwide⟩ : ∃ z : Int32, z = (p1 &&& (2097151 : Int32)) := ⟨_, rfl⟩
  rw [← hwide]
  clear hwide
  obtain ⟨low, hlow⟩ : ∃ z : Int32, z = (p2 &&& (63 : Int32)) := ⟨_, rfl⟩
  rw [← hlow]
  clear hlow
  show Go p.tables e below _ (T17.setTop (mkF m 126 #[.val (.int p0), .val (.int p1), .val (.int p2), .val (.int p3), .val (.int p4), .val (.ref b1), .val (.int edge), .val (.int wide), .val (.int low)] []))
  refine Go.via (B := T17.setTop (mkF m 127 #[.val (.int p0), .val (.int p1), .val (.int p2), .val (.int p3), .val (.int p4), .val (.ref b1), .val (.int edge), .val (.int wide), .val (.int low)] [(.int p0)])) (fun t_ k_ => ?_) ?_
  · show Steps p.tables e below (T17.setTop (mkF m 126 #[.val (.int p0), .val (.int p1), .val (.int p2), .val (.int p3), .val (.int p4), .val (.ref b1), .val (.int edge), .val (.int wide), .val (.int low)] [])) t_
    refine XS.iloadN X17.here hx rfl (hb hby at_126) rfl ?_
    show Steps p.tables e below (T17.setTop (mkF m 127 #[.val (.int p0), .val (.int p1), .val (.int p2), .val (.int p3), .val (.int p4), .val (.ref b1), .val (.int edge), .val (.int wide), .val (.int low)] [(.int p0)])) t_
    exact k_
  obtain ⟨_, _, ⟨T18, L18, k18, n18⟩, -, X18, ⟨Lc18, hQ18, l18, y18, z18⟩, st18⟩ := Jvm.LawKit.callS X17 hx (y := (⟨"com/example/shelfmark/shelfmark/text/XmlChars", "isChar", "(I)Z"⟩ : MethodName)) hown (mvT hZ (hw _ (List.mem_of_getElem? (i := 12) rfl))) (mvT hZ (hw _ (List.mem_of_getElem? (i := 13) rfl))) (mvT hZ (hw _ (List.mem_of_getElem? (i := 14) rfl))) (mvT hZ (hw _ (List.mem_of_getElem? (i := 15) rfl))) (by decide) (backOf (W := 0) (rm1 l Z a0 hw [] p0  h17 n0 Z17 ) hZ (hw _ (List.mem_of_getElem? (i := 15) rfl)) (hw _ (List.mem_of_getElem? (i := 14) rfl)) (by decide) (by decide)) (g := (mkF m 127 #[.val (.int p0), .val (.int p1), .val (.int p2), .val (.int p3), .val (.int p4), .val (.ref b1), .val (.int edge), .val (.int wide), .val (.int low)] [(.int p0)])) rfl (by rw [hml]; rfl) (argsL := [(.int p0)]) (rest := []) (lenOf pd0 rfl) rfl (by show 2 * 0 + _ ≤ _; exact Nat.le_of_eq rfl) (hb hby at_127) (fun _ _ => ⟨rfl, e17, (by decide : 1 + 0 ≤ _), (by decide : 16 + 0 ≤ _)⟩)
  dsimp only [Pt.U, Pt.locs, Pt.cells, Pt.slots] at X18 l18 y18 z18 st18 hQ18
  subst l18 y18 z18
  obtain ⟨rfl, N18q, e18⟩ := hQ18
  have N18 := Fr.app N17 N18q
  refine Go.via st18 ?_
  show Go p.tables e below _ (T18.setTop (mkF m 130 #[.val (.int p0), .val (.int p1), .val (.int p2), .val (.int p3), .val (.int p4), .val (.ref b1), .val (.int edge), .val (.int wide), .val (.int low)] [(.int (F1_0 p0))]))
  refine Go.via (B := T18.setTop (mkF m 131 #[.val (.int p0), .val (.int p1), .val (.int p2), .val (.int p3), .val (.int p4), .val (.ref b1), .val (.int edge), .val (.int wide), .val (.int low)] [(.int p0), (.int (F1_0 p0))])) (fun t_ k_ => ?_) ?_
  · show Steps p.tables e below (T18.setTop (mkF m 130 #[.val (.int p0), .val (.int p1), .val (.int p2), .val (.int p3), .val (.int p4), .val (.ref b1), .val (.int edge), .val (.int wide), .val (.int low)] [(.int (F1_0 p0))])) t_
    refine XS.iloadN X18.here hx rfl (hb hby at_130) rfl ?_
    show Steps p.tables e below (T18.setTop (mkF m 131 #[.val (.int p0), .val (.int p1), .val (.int p2), .val (.int p3), .val (.int p4), .val (.ref b1), .val (.int edge), .val (.int wide), .val (.int low)] [(.int p0), (.int (F1_0 p0))])) t_
    exact k_
  obtain ⟨_, _, ⟨T19, L19, k19, n19⟩, -, X19, ⟨Lc19, hQ19, l19, y19, z19⟩, st19⟩ := Jvm.LawKit.callS X18 hx (y := (⟨"com/example/shelfmark/shelfmark/text/XmlCharsIsCharPinLaw", "ref", "(I)Z"⟩ : MethodName)) hown (mvT hZ (hw _ (List.mem_of_getElem? (i := 18) rfl))) (mvT hZ (hw _ (List.mem_of_getElem? (i := 19) rfl))) (mvT hZ (hw _ (List.mem_of_getElem? (i := 20) rfl))) (mvT hZ (hw _ (List.mem_of_getElem? (i := 21) rfl))) (by decide) (backOf (W := 1) (rm2 l Z a0 hw [] p0  h17 n0 Z17 ) hZ (hw _ (List.mem_of_getElem? (i := 21) rfl)) (hw _ (List.mem_of_getElem? (i := 20) rfl)) (by decide) (by decide)) (g := (mkF m 131 #[.val (.int p0), .val (.int p1), .val (.int p2), .val (.int p3), .val (.int p4), .val (.ref b1), .val (.int edge), .val (.int wide), .val (.int low)] [(.int p0), (.int (F1_0 p0))])) rfl (by rw [hml]; rfl) (argsL := [(.int p0)]) (rest := [(.int (F1_0 p0))]) (lenOf pd0 rfl) rfl (by show 2 * 0 + _ ≤ _; exact Nat.le_of_eq rfl) (hb hby at_131) (fun _ _ => ⟨rfl, e18, (by decide : 1 + 0 ≤ _), (by decide : 16 + 0 ≤ _)⟩)
  dsimp only [Pt.U, Pt.locs, Pt.cells, Pt.slots] at X19 l19 y19 z19 st19 hQ19
  subst l19 y19 z19
  obtain ⟨rfl, N19q, e19⟩ := hQ19
  have N19 := Fr.app N18 N19q
  refine Go.via st19 ?_
  show Go p.tables e below _ (T19.setTop (mkF m 134 #[.val (.int p0), .val (.int p1), .val (.int p2), .val (.int p3), .val (.int p4), .val (.ref b1), .val (.int edge), .val (.int wide), .val (.int low)] [(.int (F2_0 p0)), (.int (F1_0 p0))]))
  refine Go.via (B := T19.setTop (mkF m 137 #[.val (.int p0), .val (.int p1), .val (.int p2), .val (.int p3), .val (.int p4), .val (.ref b1), .val (.int edge), .val (.int wide), .val (.int low)] [])) (fun t_ k_ => XS.icmpNo X19.here hx rfl (hb hby at_134) rfl ((teq (own_same p0)).2) k_) ?_
  refine Go.via (B := T19.setTop (mkF m 139 #[.val (.int p0), .val (.int p1), .val (.int p2), .val (.int p3), .val (.int p4), .val (.ref b1), .val (.int edge), .val (.int wide), .val (.int low)] [(.int edge)])) (fun t_ k_ => ?_) ?_
  · show Steps p.tables e below (T19.setTop (mkF m 137 #[.val (.int p0), .val (.int p1), .val (.int p2), .val (.int p3), .val (.int p4), .val (.ref b1), .val (.int edge), .val (.int wide), .val (.int low)] [])) t_
    refine XS.iload X19.here hx rfl (hb hby at_137) rfl ?_
    show Steps p.tables e below (T19.setTop (mkF m 139 #[.val (.int p0), .val (.int p1), .val (.int p2), .val (.int p3), .val (.int p4), .val (.ref b1), .val (.int edge), .val (.int wide), .val (.int low)] [(.int edge)])) t_
    exact k_
  obtain ⟨_, _, ⟨T20, L20, k20, n20⟩, -, X20, ⟨Lc20, hQ20, l20, y20, z20⟩, st20⟩ := Jvm.LawKit.callS X19 hx (y := (⟨"com/example/shelfmark/shelfmark/text/XmlChars", "isChar", "(I)Z"⟩ : MethodName)) hown (mvT hZ (hw _ (List.mem_of_getElem? (i := 12) rfl))) (mvT hZ (hw _ (List.mem_of_getElem? (i := 13) rfl))) (mvT hZ (hw _ (List.mem_of_getElem? (i := 14) rfl))) (mvT hZ (hw _ (List.mem_of_getElem? (i := 15) rfl))) (by decide) (backOf (W := 0) (rm1 l Z a0 hw [] edge  h17 n0 Z17 ) hZ (hw _ (List.mem_of_getElem? (i := 15) rfl)) (hw _ (List.mem_of_getElem? (i := 14) rfl)) (by decide) (by decide)) (g := (mkF m 139 #[.val (.int p0), .val (.int p1), .val (.int p2), .val (.int p3), .val (.int p4), .val (.ref b1), .val (.int edge), .val (.int wide), .val (.int low)] [(.int edge)])) rfl (by rw [hml]; rfl) (argsL := [(.int edge)]) (rest := []) (lenOf pd0 rfl) rfl (by show 2 * 0 + _ ≤ _; exact Nat.le_of_eq rfl) (hb hby at_139) (fun _ _ => ⟨rfl, e19, (by decide : 1 + 0 ≤ _), (by decide : 16 + 0 ≤ _)⟩)
  dsimp only [Pt.U, Pt.locs, Pt.cells, Pt.slots] at X20 l20 y20 z20 st20 hQ20
  subst l20 y20 z20
  obtain ⟨rfl, N20q, e20⟩ := hQ20
  have N20 := Fr.app N19 N20q
  refine Go.via st20 ?_
  show Go p.tables e below _ (T20.setTop (mkF m 142 #[.val (.int p0), .val (.int p1), .val (.int p2), .val (.int p3), .val (.int p4), .val (.ref b1), .val (.int edge), .val (.int wide), .val (.int low)] [(.int (F1_0 edge))]))
  refine Go.via (B := T20.setTop (mkF m 144 #[.val (.int p0), .val (.int p1), .val (.int p2), .val (.int p3), .val (.int p4), .val (.ref b1), .val (.int edge), .val (.int wide), .val (.int low)] [(.int edge), (.int (F1_0 edge))])) (fun t_ k_ => ?_) ?_
  · show Steps p.tables e below (T20.setTop (mkF m 142 #[.val (.int p0), .val (.int p1), .val (.int p2), .val (.int p3), .val (.int p4), .val (.ref b1), .val (.int edge), .val (.int wide), .val (.int low)] [(.int (F1_0 edge))])) t_
    refine XS.iload X20.here hx rfl (hb hby at_142) rfl ?_
    show Steps p.tables e below (T20.setTop (mkF m 144 #[.val (.int p0), .val (.int p1), .val (.int p2), .val (.int p3), .val (.int p4), .val (.ref b1), .val (.int edge), .val (.int wide), .val (.int low)] [(.int edge), (.int (F1_0 edge))])) t_
    exact k_
  obtain ⟨_, _, ⟨T21, L21, k21, n21⟩, -, X21, ⟨Lc21, hQ21, l21, y21, z21⟩, st21⟩ := Jvm.LawKit.callS X20 hx (y := (⟨"com/example/shelfmark/shelfmark/text/XmlCharsIsCharPinLaw", "ref", "(I)Z"⟩ : MethodName)) hown (mvT hZ (hw _ (List.mem_of_getElem? (i := 18) rfl))) (mvT hZ (hw _ (List.mem_of_getElem? (i := 19) rfl))) (mvT hZ (hw _ (List.mem_of_getElem? (i := 20) rfl))) (mvT hZ (hw _ (List.mem_of_getElem? (i := 21) rfl))) (by decide) (backOf (W := 1) (rm2 l Z a0 hw [] edge  h17 n0 Z17 ) hZ (hw _ (List.mem_of_getElem? (i := 21) rfl)) (hw _ (List.mem_of_getElem? (i := 20) rfl)) (by decide) (by decide)) (g := (mkF m 144 #[.val (.int p0), .val (.int p1), .val (.int p2), .val (.int p3), .val (.int p4), .val (.ref b1), .val (.int edge), .val (.int wide), .val (.int low)] [(.int edge), (.int (F1_0 edge))])) rfl (by rw [hml]; rfl) (argsL := [(.int edge)]) (rest := [(.int (F1_0 edge))]) (lenOf pd0 rfl) rfl (by show 2 * 0 + _ ≤ _; exact Nat.le_of_eq rfl) (hb hby at_144) (fun _ _ => ⟨rfl, e20, (by decide : 1 + 0 ≤ _), (by decide : 16 + 0 ≤ _)⟩)
  dsimp only [Pt.U, Pt.locs, Pt.cells, Pt.slots] at X21 l21 y21 z21 st21 hQ21
  subst l21 y21 z21
  obtain ⟨rfl, N21q, e21⟩ := hQ21
  have N21 := Fr.app N20 N21q
  refine Go.via st21 ?_
  show Go p.tables e below _ (T21.setTop (mkF m 147 #[.val (.int p0), .val (.int p1), .val (.int p2), .val (.int p3), .val (.int p4), .val (.ref b1), .val (.int edge), .val (.int wide), .val (.int low)] [(.int (F2_0 edge)), (.int (F1_0 edge))]))
  refine Go.via (B := T21.setTop (mkF m 150 #[.val (.int p0), .val (.int p1), .val (.int p2), .val (.int p3), .val (.int p4), .val (.ref b1), .val (.int edge), .val (.int wide), .val (.int low)] [])) (fun t_ k_ => XS.icmpNo X21.here hx rfl (hb hby at_147) rfl ((teq (own_same edge)).2) k_) ?_
  refine Go.via (B := T21.setTop (mkF m 152 #[.val (.int p0), .val (.int p1), .val (.int p2), .val (.int p3), .val (.int p4), .val (.ref b1), .val (.int edge), .val (.int wide), .val (.int low)] [(.int wide)])) (fun t_ k_ => ?_) ?_
  · show Steps p.tables e below (T21.setTop (mkF m 150 #[.val (.int p0), .val (.int p1), .val (.int p2), .val (.int p3), .val (.int p4), .val (.ref b1), .val (.int edge), .val (.int wide), .val (.int low)] [])) t_
    refine XS.iload X21.here hx rfl (hb hby at_150) rfl ?_
    show Steps p.tables e below (T21.setTop (mkF m 152 #[.val (.int p0), .val (.int p1), .val (.int p2), .val (.int p3), .val (.int p4), .val (.ref b1), .val (.int edge), .val (.int wide), .val (.int low)] [(.int wide)])) t_
    exact k_
  obtain ⟨_, _, ⟨T22, L22, k22, n22⟩, -, X22, ⟨Lc22, hQ22, l22, y22, z22⟩, st22⟩ := Jvm.LawKit.callS X21 hx (y := (⟨"com/example/shelfmark/shelfmark/text/XmlChars", "isChar", "(I)Z"⟩ : MethodName)) hown (mvT hZ (hw _ (List.mem_of_getElem? (i := 12) rfl))) (mvT hZ (hw _ (List.mem_of_getElem? (i := 13) rfl))) (mvT hZ (hw _ (List.mem_of_getElem? (i := 14) rfl))) (mvT hZ (hw _ (List.mem_of_getElem? (i := 15) rfl))) (by decide) (backOf (W := 0) (rm1 l Z a0 hw [] wide  h17 n0 Z17 ) hZ (hw _ (List.mem_of_getElem? (i := 15) rfl)) (hw _ (List.mem_of_getElem? (i := 14) rfl)) (by decide) (by decide)) (g := (mkF m 152 #[.val (.int p0), .val (.int p1), .val (.int p2), .val (.int p3), .val (.int p4), .val (.ref b1), .val (.int edge), .val (.int wide), .val (.int low)] [(.int wide)])) rfl (by rw [hml]; rfl) (argsL := [(.int wide)]) (rest := []) (lenOf pd0 rfl) rfl (by show 2 * 0 + _ ≤ _; exact Nat.le_of_eq rfl) (hb hby at_152) (fun _ _ => ⟨rfl, e21, (by decide : 1 + 0 ≤ _), (by decide : 16 + 0 ≤ _)⟩)
  dsimp only [Pt.U, Pt.locs, Pt.cells, Pt.slots] at X22 l22 y22 z22 st22 hQ22
  subst l22 y22 z22
  obtain ⟨rfl, N22q, e22⟩ := hQ22
  have N22 := Fr.app N21 N22q
  refine Go.via st22 ?_
  show Go p.tables e below _ (T22.setTop (mkF m 155 #[.val (.int p0), .val (.int p1), .val (.int p2), .val (.int p3), .val (.int p4), .val (.ref b1), .val (.int edge), .val (.int wide), .val (.int low)] [(.int (F1_0 wide))]))
  refine Go.via (B := T22.setTop (mkF m 157 #[.val (.int p0), .val (.int p1), .val (.int p2), .val (.int p3), .val (.int p4), .val (.ref b1), .val (.int edge), .val (.int wide), .val (.int low)] [(.int wide), (.int (F1_0 wide))])) (fun t_ k_ => ?_) ?_
  · show Steps p.tables e below (T22.setTop (mkF m 155 #[.val (.int p0), .val (.int p1), .val (.int p2), .val (.int p3), .val (.int p4), .val (.ref b1), .val (.int edge), .val (.int wide), .val (.int low)] [(.int (F1_0 wide))])) t_
    refine XS.iload X22.here hx rfl (hb hby at_155) rfl ?_
    show Steps p.tables e below (T22.setTop (mkF m 157 #[.val (.int p0), .val (.int p1), .val (.int p2), .val (.int p3), .val (.int p4), .val (.ref b1), .val (.int edge), .val (.int wide), .val (.int low)] [(.int wide), (.int (F1_0 wide))])) t_
    exact k_
  obtain ⟨_, _, ⟨T23, L23, k23, n23⟩, -, X23, ⟨Lc23, hQ23, l23, y23, z23⟩, st23⟩ := Jvm.LawKit.callS X22 hx (y := (⟨"com/example/shelfmark/shelfmark/text/XmlCharsIsCharPinLaw", "ref", "(I)Z"⟩ : MethodName)) hown (mvT hZ (hw _ (List.mem_of_getElem? (i := 18) rfl))) (mvT hZ (hw _ (List.mem_of_getElem? (i := 19) rfl))) (mvT hZ (hw _ (List.mem_of_getElem? (i := 20) rfl))) (mvT hZ (hw _ (List.mem_of_getElem? (i := 21) rfl))) (by decide) (backOf (W := 1) (rm2 l Z a0 hw [] wide  h17 n0 Z17 ) hZ (hw _ (List.mem_of_getElem? (i := 21) rfl)) (hw _ (List.mem_of_getElem? (i := 20) rfl)) (by decide) (by decide)) (g := (mkF m 157 #[.val (.int p0), .val (.int p1), .val (.int p2), .val (.int p3), .val (.int p4), .val (.ref b1), .val (.int edge), .val (.int wide), .val (.int low)] [(.int wide), (.int (F1_0 wide))])) rfl (by rw [hml]; rfl) (argsL := [(.int wide)]) (rest := [(.int (F1_0 wide))]) (lenOf pd0 rfl) rfl (by show 2 * 0 + _ ≤ _; exact Nat.le_of_eq rfl) (hb hby at_157) (fun _ _ => ⟨rfl, e22, (by decide : 1 + 0 ≤ _), (by decide : 16 + 0 ≤ _)⟩)
  dsimp only [Pt.U, Pt.locs, Pt.cells, Pt.slots] at X23 l23 y23 z23 st23 hQ23
  subst l23 y23 z23
  obtain ⟨rfl, N23q, e23⟩ := hQ23
  have N23 := Fr.app N22 N23q
  refine Go.via st23 ?_
  show Go p.tables e below _ (T23.setTop (mkF m 160 #[.val (.int p0), .val (.int p1), .val (.int p2), .val (.int p3), .val (.int p4), .val (.ref b1), .val (.int edge), .val (.int wide), .val (.int low)] [(.int (F2_0 wide)), (.int (F1_0 wide))]))
  refine Go.via (B := T23.setTop (mkF m 163 #[.val (.int p0), .val (.int p1), .val (.int p2), .val (.int p3), .val (.int p4), .val (.ref b1), .val (.int edge), .val (.int wide), .val (.int low)] [])) (fun t_ k_ => XS.icmpNo X23.here hx rfl (hb hby at_160) rfl ((teq (own_same wide)).2) k_) ?_
  refine Go.via (B := T23.setTop (mkF m 165 #[.val (.int p0), .val (.int p1), .val (.int p2), .val (.int p3), .val (.int p4), .val (.ref b1), .val (.int edge), .val (.int wide), .val (.int low)] [(.int low)])) (fun t_ k_ => ?_) ?_
  · show Steps p.tables e below (T23.setTop (mkF m 163 #[.val (.int p0), .val (.int p1), .val (.int p2), .val (.int p3), .val (.int p4), .val (.ref b1), .val (.int edge), .val (.int wide), .val (.int low)] [])) t_
    refine XS.iload X23.here hx rfl (hb hby at_163) rfl ?_
    show Steps p.tables e below (T23.setTop (mkF m 165 #[.val (.int p0), .val (.int p1), .val (.int p2), .val (.int p3), .val (.int p4), .val (.ref b1), .val (.int edge), .val (.int wide), .val (.int low)] [(.int low)])) t_
    exact k_
  obtain ⟨_, _, ⟨T24, L24, k24, n24⟩, -, X24, ⟨Lc24, hQ24, l24, y24, z24⟩, st24⟩ := Jvm.LawKit.callS X23 hx (y := (⟨"com/example/shelfmark/shelfmark/text/XmlChars", "isChar", "(I)Z"⟩ : MethodName)) hown (mvT hZ (hw _ (List.mem_of_getElem? (i := 12) rfl))) (mvT hZ (hw _ (List.mem_of_getElem? (i := 13) rfl))) (mvT hZ (hw _ (List.mem_of_getElem? (i := 14) rfl))) (mvT hZ (hw _ (List.mem_of_getElem? (i := 15) rfl))) (by decide) (backOf (W := 0) (rm1 l Z a0 hw [] low  h17 n0 Z17 ) hZ (hw _ (List.mem_of_getElem? (i := 15) rfl)) (hw _ (List.mem_of_getElem? (i := 14) rfl)) (by decide) (by decide)) (g := (mkF m 165 #[.val (.int p0), .val (.int p1), .val (.int p2), .val (.int p3), .val (.int p4), .val (.ref b1), .val (.int edge), .val (.int wide), .val (.int low)] [(.int low)])) rfl (by rw [hml]; rfl) (argsL := [(.int low)]) (rest := []) (lenOf pd0 rfl) rfl (by show 2 * 0 + _ ≤ _; exact Nat.le_of_eq rfl) (hb hby at_165) (fun _ _ => ⟨rfl, e23, (by decide : 1 + 0 ≤ _), (by decide : 16 + 0 ≤ _)⟩)
  dsimp only [Pt.U, Pt.locs, Pt.cells, Pt.slots] at X24 l24 y24 z24 st24 hQ24
  subst l24 y24 z24
  obtain ⟨rfl, N24q, e24⟩ := hQ24
  have N24 := Fr.app N23 N24q
  refine Go.via st24 ?_
  show Go p.tables e below _ (T24.setTop (mkF m 168 #[.val (.int p0), .val (.int p1), .val (.int p2), .val (.int p3), .val (.int p4), .val (.ref b1), .val (.int edge), .val (.int wide), .val (.int low)] [(.int (F1_0 low))]))
  refine Go.via (B := T24.setTop (mkF m 170 #[.val (.int p0), .val (.int p1), .val (.int p2), .val (.int p3), .val (.int p4), .val (.ref b1), .val (.int edge), .val (.int wide), .val (.int low)] [(.int low), (.int (F1_0 low))])) (fun t_ k_ => ?_) ?_
  · show Steps p.tables e below (T24.setTop (mkF m 168 #[.val (.int p0), .val (.int p1), .val (.int p2), .val (.int p3), .val (.int p4), .val (.ref b1), .val (.int edge), .val (.int wide), .val (.int low)] [(.int (F1_0 low))])) t_
    refine XS.iload X24.here hx rfl (hb hby at_168) rfl ?_
    show Steps p.tables e below (T24.setTop (mkF m 170 #[.val (.int p0), .val (.int p1), .val (.int p2), .val (.int p3), .val (.int p4), .val (.ref b1), .val (.int edge), .val (.int wide), .val (.int low)] [(.int low), (.int (F1_0 low))])) t_
    exact k_
  obtain ⟨_, _, ⟨T25, L25, k25, n25⟩, -, X25, ⟨Lc25, hQ25, l25, y25, z25⟩, st25⟩ := Jvm.LawKit.callS X24 hx (y := (⟨"com/example/shelfmark/shelfmark/text/XmlCharsIsCharPinLaw", "ref", "(I)Z"⟩ : MethodName)) hown (mvT hZ (hw _ (List.mem_of_getElem? (i := 18) rfl))) (mvT hZ (hw _ (List.mem_of_getElem? (i := 19) rfl))) (mvT hZ (hw _ (List.mem_of_getElem? (i := 20) rfl))) (mvT hZ (hw _ (List.mem_of_getElem? (i := 21) rfl))) (by decide) (backOf (W := 1) (rm2 l Z a0 hw [] low  h17 n0 Z17 ) hZ (hw _ (List.mem_of_getElem? (i := 21) rfl)) (hw _ (List.mem_of_getElem? (i := 20) rfl)) (by decide) (by decide)) (g := (mkF m 170 #[.val (.int p0), .val (.int p1), .val (.int p2), .val (.int p3), .val (.int p4), .val (.ref b1), .val (.int edge), .val (.int wide), .val (.int low)] [(.int low), (.int (F1_0 low))])) rfl (by rw [hml]; rfl) (argsL := [(.int low)]) (rest := [(.int (F1_0 low))]) (lenOf pd0 rfl) rfl (by show 2 * 0 + _ ≤ _; exact Nat.le_of_eq rfl) (hb hby at_170) (fun _ _ => ⟨rfl, e24, (by decide : 1 + 0 ≤ _), (by decide : 16 + 0 ≤ _)⟩)
  dsimp only [Pt.U, Pt.locs, Pt.cells, Pt.slots] at X25 l25 y25 z25 st25 hQ25
  subst l25 y25 z25
  obtain ⟨rfl, N25q, e25⟩ := hQ25
  have N25 := Fr.app N24 N25q
  refine Go.via st25 ?_
  show Go p.tables e below _ (T25.setTop (mkF m 173 #[.val (.int p0), .val (.int p1), .val (.int p2), .val (.int p3), .val (.int p4), .val (.ref b1), .val (.int edge), .val (.int wide), .val (.int low)] [(.int (F2_0 low)), (.int (F1_0 low))]))
  refine Go.via (B := T25.setTop (mkF m 176 #[.val (.int p0), .val (.int p1), .val (.int p2), .val (.int p3), .val (.int p4), .val (.ref b1), .val (.int edge), .val (.int wide), .val (.int low)] [])) (fun t_ k_ => XS.icmpNo X25.here hx rfl (hb hby at_173) rfl ((teq (own_same low)).2) k_) ?_
  refine Go.via (B := T25.setTop (mkF m 181 #[.val (.int p0), .val (.int p1), .val (.int p2), .val (.int p3), .val (.int p4), .val (.ref b1), .val (.int edge), .val (.int wide), .val (.int low)] [(.int (1 : Int32))])) (fun t_ k_ => ?_) ?_
  · show Steps p.tables e below (T25.setTop (mkF m 176 #[.val (.int p0), .val (.int p1), .val (.int p2), .val (.int p3), .val (.int p4), .val (.ref b1), .val (.int edge), .val (.int wide), .val (.int low)] [])) t_
    refine XS.iconst X25.here hx rfl (hb hby at_176) ?_
    show Steps p.tables e below (T25.setTop (mkF m 177 #[.val (.int p0), .val (.int p1), .val (.int p2), .val (.int p3), .val (.int p4), .val (.ref b1), .val (.int edge), .val (.int wide), .val (.int low)] [(.int (1 : Int32))])) t_
    refine XS.goto X25.here hx rfl (pc0 := 177) (pc' := 181) rfl (hb hby at_177) (by decide) (by decide) ?_
    show Steps p.tables e below (T25.setTop (mkF m 181 #[.val (.int p0), .val (.int p1), .val (.int p2), .val (.int p3), .val (.int p4), .val (.ref b1), .val (.int edge), .val (.int wide), .val (.int low)] [(.int (1 : Int32))])) t_
    exact k_
  exact Go.leave X25 hlk (v := (some (.int (1 : Int32)))) (fun h => by rw [hrt] at h; cases h) (fun fs hr => retN X25 hx (t := .boolean) hrt (by simp) (hb hby at_181) hr) (by decide) (by decide) (⟨rfl, N25⟩)
set_option maxRecDepth 65536 in
set_option maxHeartbeats 40000000 in
theorem comes_1 {Post : Tables → Env → Array Value → State → Outcome → State → Prop} (hpost : ∀ tb e args s v u, (limb_1_1.after args s (.returned v) u = true ∧ limb_1_2.after args s (.returned v) u = true ∧ True) → FrameEnd s (.returned v) u (Jvm.fieldLocs frame_1_writes args s ++ Jvm.arrayLocs frame_1_arrays args s ++ Jvm.staticLocs frame_1_statics s) 16 128 → Post tb e args s (.returned v) u) :
    ArmFor flags0 classFile x code maxLocals ret World_1 tables_1 room_1 Calls_1 rest_1 Pre_1 Post := by
  intro l hfl _ _ p e ha hc hk s m args below hf hA hF happ hP
  obtain ⟨hcalls, hrest, hpre⟩ := hP
  obtain ⟨-, -, -, hnamed, -, -, -, hat⟩ := (Spec.applies_iff hf).mp happ
  obtain ⟨hg, hn⟩ := and_e (Cond.before_iff.mp (show (Jvm.Cond.and given_1 narrow_1).before args s = true from hpre))
  obtain ⟨hcount, hg0⟩ := and_e hg
  obtain ⟨ha0, hg1⟩ := and_e hg0
  obtain ⟨ha1, hg2⟩ := and_e hg1
  obtain ⟨ha2, hg3⟩ := and_e hg2
  obtain ⟨ha3, hg4⟩ := and_e hg3
  have ha4 := hg4
  obtain ⟨w0, w1, w2, w3, w4, rfl⟩ : ∃ w0 w1 w2 w3 w4 : Value, args = #[w0, w1, w2, w3, w4] := by
    have hs : args.size = 5 := by simpa [Cond.value, given_1] using hcount
    obtain ⟨L⟩ := args
    match L, hs with
    | [w0, w1, w2, w3, w4], _ => exact ⟨w0, w1, w2, w3, w4, rfl⟩
  have hw := fun d (hd : d ∈ tables_1) => atoms_spec (ws := Jvm.Cond.code x code maxLocals ret :: tables_1) hat d (List.mem_cons_of_mem _ hd)
  have hfit : Fit s := fun {y c} hc i hi => by
    obtain ⟨ha, rfl⟩ := Array.getElem?_eq_some_iff.mp hc
    have q := List.all_eq_true.mp ((Array.all_eq_true_iff_forall_mem.mp hF) _ (Array.getElem_mem ha)) i (List.mem_range.mpr hi)
    simpa [Array.getElem?_eq_getElem hi] using q
  obtain ⟨i0, ei0⟩ := is_v ha0
  obtain rfl : w0 = (.int i0) := Option.some.inj ei0
  obtain ⟨i1, ei1⟩ := is_v ha1
  obtain rfl : w1 = (.int i1) := Option.some.inj ei1
  obtain ⟨i2, ei2⟩ := is_v ha2
  obtain rfl : w2 = (.int i2) := Option.some.inj ei2
  obtain ⟨i3, ei3⟩ := is_v ha3
  obtain rfl : w3 = (.int i3) := Option.some.inj ei3
  obtain ⟨i4, ei4⟩ := is_v ha4
  obtain rfl : w4 = (.int i4) := Option.some.inj ei4
  obtain ⟨n, o, h1, h2, h3, _, L, rfl, ⟨rfl, N⟩, hq⟩ := rm0 l s _ hw tables_1 i0 i1 i2 i3 i4  s.heap s.heap.size (Nat.le_refl _)  p e ha hc hk s m _ below hf ((Spec.applies_iff_loose hf).mp happ).1 ⟨rfl, State.Warmed39.refl s, rfl⟩ trivial
  refine ⟨n, _, h1, h2, h3, hpost _ _ _ _ _ _ ⟨Cond.after_iff.mpr rfl, Cond.after_iff.mpr (eq_i res_at (Term.int_eval (1)) rfl), trivial⟩ ⟨hq.1, hq.2.1, (hq.2.2.sift fun y hy => Or.inr (N y hy)).mono (by decide) (by decide)⟩⟩
theorem main_1_1 : Claimed_1_1 := comes_1 fun _ _ _ _ _ _ h hF => ⟨h.1, hF⟩
theorem main_1_2 : Claimed_1_2 := comes_1 fun _ _ _ _ _ _ h hF => ⟨h.2.1, hF⟩
end Jvm.Pilot.@@N@@
namespace Jvm.Pilot.@@N@@
open Jvm Jvm.ClassFile Sem Op Lib Jvm.Free Jvm.Stand Jvm.Pilot.@@N@@.Jvm.D
/-! MADE BY PROGRAM (witnessworld.py) out of the Statement's table words and the real class files: 9 classes; the members and pool entries that the words name. The judged class is class 1, her method 2. -/
namespace start1
open Jvm.ClassFile
def u (s : String) : CpInfo := .utf8 (stringToUtf16 s)
/-- a pool by its gaps: so many unusable entries, then the entry; so many at the end -/
def gap : Nat → List CpInfo → List CpInfo
  | 0, r => r
  | n + 1, r => .unusable :: gap n r
def poolList (es : List (Nat × CpInfo)) (last : Nat) : List CpInfo := es.foldr (fun e r => gap e.1 (e.2 :: r)) (gap last [])
def pool (es : List (Nat × CpInfo)) (last : Nat) : Array CpInfo := ⟨poolList es last⟩
def fileOf (pool : Array CpInfo) (this : Nat) (attrs : Array Attribute := #[]) (ms : Array MethodInfo := #[]) (fl : Nat := 33) (sup : Nat := 0) (ifs : Array Nat := #[]) (fds : Array FieldInfo := #[]) : ClassFile where
  minorVersion := 0
  majorVersion := 65
  constantPool := pool
  accessFlags := fl
  thisClass := this
  superClass := sup
  interfaces := ifs
  fields := fds
  methods := ms
  attributes := attrs
def plain (name : String) (sup : Option ClassId) : Class where
  name := name
  kind := .ordinary
  loader := none
  accessFlags := 33
  super := sup
  interfaces := #[]
  cf := none
  fields := #[]
  methods := #[]
  instanceTypes := #[]
  staticTypes := #[]
  resolved := #[]
  callSites := []
  init := .initialized
  statics := none
  mirror := none

def pool0 : Array CpInfo := pool [(5, u "<init>"), (0, u "()V"), (1, .class_ 10), (1, u "java/lang/Object")] 113

def k0m0 : Method := { name := "<init>", desc := "()V", sig := { parameters := [], returnType := none }, accessFlags := 1, code := none }
/-- java/lang/Object -/
def k0 : Class := { plain "java/lang/Object" none with
  accessFlags := 33
  interfaces := #[]
  cf := some (fileOf pool0 8 #[] #[{ accessFlags := 1, nameIndex := 5, descriptorIndex := 6, attributes := #[] }] 33 0 #[] #[])
  fields := #[]
  methods := #[k0m0]
  instanceTypes := #[]
  staticTypes := #[]
  resolved := Array.replicate 124 none
  statics := none }

def pool1 : Array CpInfo := pool [(2, .class_ 4), (1, u "java/lang/Object"), (0, u "<init>"), (0, u "()V"), (0, .integer 55296), (0, .integer 57343), (0, .integer 65534), (0, .integer 65535), (0, .integer 1114111), (0, .integer 55295), (0, .integer 57344), (0, .integer 65533), (0, .integer 65536), (2, .integer 2147483648), (0, .integer 2147483647), (0, .integer 2097151), (0, .methodref 22 23), (0, .class_ 24), (0, .nameAndType 25 26), (0, u "com/example/shelfmark/shelfmark/text/XmlChars"), (0, u "isChar"), (0, u "(I)Z"), (0, .methodref 28 29), (0, .class_ 30), (0, .nameAndType 31 26), (0, u "com/example/shelfmark/shelfmark/text/XmlCharsIsCharPinLaw"), (0, u "ref"), (3, u "law"), (0, u "(IIIII)Z")] 4

def k1m0 : Method := { name := "<init>", desc := "()V", sig := { parameters := [], returnType := none }, accessFlags := 2, code := none }
def k1c1 : Code := { maxStack := 2, maxLocals := 1, code := method_2_code, exceptionTable := #[], attributes := #[] }
def k1m1 : Method := { name := "ref", desc := "(I)Z", sig := { parameters := [.int], returnType := some .boolean }, accessFlags := 10, code := some k1c1 }
def k1c2 : Code := { maxStack := 4, maxLocals := 9, code := code, exceptionTable := #[], attributes := #[] }
def k1m2 : Method := { name := "law", desc := "(IIIII)Z", sig := { parameters := [.int, .int, .int, .int, .int], returnType := some .boolean }, accessFlags := 9, code := some k1c2 }
/-- com/example/shelfmark/shelfmark/text/XmlCharsIsCharPinLaw -/
def k1 : Class := { plain "com/example/shelfmark/shelfmark/text/XmlCharsIsCharPinLaw" (some 0) with
  accessFlags := 49
  interfaces := #[]
  cf := some (fileOf pool1 28 #[] #[{ accessFlags := 2, nameIndex := 5, descriptorIndex := 6, attributes := #[] }, { accessFlags := 10, nameIndex := 31, descriptorIndex := 26, attributes := #[] }, { accessFlags := 9, nameIndex := 35, descriptorIndex := 36, attributes := #[] }] 49 2 #[] #[])
  fields := #[]
  methods := #[k1m0, k1m1, k1m2]
  instanceTypes := #[]
  staticTypes := #[]
  resolved := Array.replicate 41 none
  statics := none }

def pool2 : Array CpInfo := pool [(2, .class_ 4), (1, u "java/lang/Object"), (0, u "<init>"), (0, u "()V"), (0, .integer 55295), (0, .integer 57344), (0, .integer 65533), (0, .integer 65536), (0, .integer 1114111), (11, .class_ 25), (1, u "com/example/shelfmark/shelfmark/text/XmlChars"), (1, u "(I)Z"), (35, u "NAME_START_RANGES"), (0, u "[I"), (6, u "OTHER_NAME_RANGES"), (34, u "isChar")] 15

def k2m0 : Method := { name := "<init>", desc := "()V", sig := { parameters := [], returnType := none }, accessFlags := 2, code := none }
def k2c1 : Code := { maxStack := 2, maxLocals := 1, code := prog_16_method_2_code, exceptionTable := #[], attributes := #[] }
def k2m1 : Method := { name := "isChar", desc := "(I)Z", sig := { parameters := [.int], returnType := some .boolean }, accessFlags := 9, code := some k2c1 }
/-- com/example/shelfmark/shelfmark/text/XmlChars -/
def k2 : Class := { plain "com/example/shelfmark/shelfmark/text/XmlChars" (some 0) with
  accessFlags := 49
  interfaces := #[]
  cf := some (fileOf pool2 23 #[] #[{ accessFlags := 2, nameIndex := 5, descriptorIndex := 6, attributes := #[] }, { accessFlags := 9, nameIndex := 106, descriptorIndex := 27, attributes := #[] }] 49 2 #[] #[{ accessFlags := 26, nameIndex := 63, descriptorIndex := 64, attributes := #[] }, { accessFlags := 26, nameIndex := 71, descriptorIndex := 64, attributes := #[] }])
  fields := #[{ name := "NAME_START_RANGES", type := (.array .int), accessFlags := 26, slot := 0, constantValue := 0 }, { name := "OTHER_NAME_RANGES", type := (.array .int), accessFlags := 26, slot := 1, constantValue := 0 }]
  methods := #[k2m0, k2m1]
  instanceTypes := #[]
  staticTypes := #[(.array .int), (.array .int)]
  resolved := Array.replicate 122 none
  statics := none }

def pool3 : Array CpInfo := pool [(1, u "java/lang/Cloneable"), (0, .class_ 1), (0, u "java/lang/Object"), (0, .class_ 3)] 3

/-- java/lang/Cloneable -/
def k3 : Class := { plain "java/lang/Cloneable" (some 0) with
  accessFlags := 1537
  interfaces := #[]
  cf := some (fileOf pool3 2 #[] #[] 1537 4 #[] #[])
  fields := #[]
  methods := #[]
  instanceTypes := #[]
  staticTypes := #[]
  resolved := Array.replicate 8 none
  statics := none }

def pool4 : Array CpInfo := pool [(1, u "java/io/Serializable"), (0, .class_ 1), (0, u "java/lang/Object"), (0, .class_ 3)] 3

/-- java/io/Serializable -/
def k4 : Class := { plain "java/io/Serializable" (some 0) with
  accessFlags := 1537
  interfaces := #[]
  cf := some (fileOf pool4 2 #[] #[] 1537 4 #[] #[])
  fields := #[]
  methods := #[]
  instanceTypes := #[]
  staticTypes := #[]
  resolved := Array.replicate 8 none
  statics := none }

/-- the primitive byte -/
def k5 : Class := { plain "byte" none with kind := .primitive 'B', accessFlags := 0x411 }
/-- [B -/
def k6 : Class := { plain "[B" (some 0) with kind := .array 5 .byte, interfaces := #[3, 4], accessFlags := 1041 }

/-- the primitive int -/
def k7 : Class := { plain "int" none with kind := .primitive 'I', accessFlags := 0x411 }
/-- [I -/
def k8 : Class := { plain "[I" (some 0) with kind := .array 7 .int, interfaces := #[3, 4], accessFlags := 1041 }

def heap : Heap := #[]
def classes : Array Class := #[k0, k1, k2, k3, k4, k5, k6, k7, k8]
def interned : List (Array UInt16 × Addr) := []
def slotsUsed : Nat := 0
def theMethod : MethodId := ⟨1, 2⟩
def args0 : Array Value := #[.int 5, .int 6, .int 7, .int 8, .int 9]
def aboutOver (below : List Frame) : State where
  vm := { classes := classes, interned := interned.toArray }
  heap := heap
  slotsUsed := slotsUsed
  threads := #[{ frames := .invoking theMethod args0 :: below }]
def below0 : List Frame := [.native { method := ⟨0, 0⟩, args := #[] }]
def about1 : State := aboutOver below0
def p0 : Program := .bare "" "" ""
def e0 : Env := launch0.env 0 0 0
theorem w_frames : about1.frames = Frame.invoking theMethod args0 :: below0 := rfl
set_option maxRecDepth 65536 in
theorem w_args : argsFit about1.vm theMethod args0 = true := by decide +kernel
set_option maxRecDepth 65536 in
theorem w_heap : heapFits about1 = true := by decide +kernel
set_option maxRecDepth 65536 in
theorem w_runnable : about1.curStatus? = some .runnable := by decide +kernel
set_option maxRecDepth 65536 in
theorem w_alone : about1.alone = true := by decide +kernel
set_option maxRecDepth 65536 in
theorem w_named : about1.methodNamed? x = some theMethod := by decide +kernel
set_option maxRecDepth 65536 in
theorem w_hears : about1.hears theMethod below0 = true := by decide +kernel
set_option maxRecDepth 65536 in
theorem w_ripe : about1.ripe theMethod args0 below0 = true := by decide +kernel
theorem w_running : about1.status = .running := rfl
set_option maxRecDepth 65536 in
theorem w_room : about1.hasRoom e0.platform room_1 = true :=
  launch0.hasRoom_least _ room_1 (by decide +kernel) (by decide +kernel) (by decide +kernel) (by decide +kernel) (by decide +kernel) (by decide +kernel)
theorem allAtoms_all (ts : List Jvm.Cond) (a : Array Jvm.Value) (st : Jvm.State) : (allAtoms ts).before a st = ts.all (fun c => c.before a st) := by
  induction ts with
  | nil => rfl
  | cons c t ih =>
    show (Jvm.Cond.and c (allAtoms t)).before a st = _
    rw [Jvm.Cond.before_and, ih, List.all_cons]
def words1 : List Jvm.Cond := Jvm.Cond.code x code maxLocals ret :: tables_1
/-- a 'code' word, met by the world's own term for the bytes: nothing is compared byte by byte -/
theorem code_word {y : MethodName} {bytes : ByteArray} {mx : Nat} {rt : Option FieldType} {a : Array Value} {s : State} {m : MethodId} {meth : Method} {c : Code} (h1 : s.methodNamed? y = some m) (h2 : s.vm.method? m = some meth) (h3 : meth.code = some c) (h4 : c.code = bytes)
    (h5 : (c.maxLocals == mx && c.exceptionTable.isEmpty && decide (c.maxStack ≤ mostOperands) && decide (meth.sig.returnType = rt) && !meth.locks && decide (parseMethodDescriptor y.desc = some meth.sig)) = true) : (Jvm.Cond.code y bytes mx rt).before a s = true := by
  simp only [Bool.and_eq_true, beq_iff_eq, Bool.not_eq_true', decide_eq_true_eq] at h5
  obtain ⟨⟨⟨⟨⟨g1, g2⟩, g3⟩, g4⟩, g5⟩, g6⟩ := h5
  simp [Cond.before, Cond.holds, Cond.value, h1, h2, h3, h4, g1, g2, g3, g4, g5, g6]
def isCode : Jvm.Cond → Bool
  | .code _ _ _ _ => true
  | _ => false
theorem all_split {L : List Jvm.Cond} {P : Jvm.Cond → Bool} (h1 : L.all (fun c => isCode c || P c) = true) (h2 : ∀ c ∈ L.filter isCode, P c = true) : L.all P = true := by
  refine List.all_eq_true.mpr fun c hc => ?_
  have h := List.all_eq_true.mp h1 c hc
  rcases Bool.eq_false_or_eq_true (isCode c) with hi | hi
  · exact h2 c (List.mem_filter.mpr ⟨hc, hi⟩)
  · simpa [hi] using h
set_option maxRecDepth 65536 in
theorem w_c0 : (Jvm.Cond.code x code maxLocals ret).before args0 about1 = true := code_word (m := ⟨1, 2⟩) (meth := k1m2) (c := k1c2) (by decide +kernel) rfl rfl rfl (by decide +kernel)
set_option maxRecDepth 65536 in
theorem w_c1 : (Jvm.Cond.code ({ cls := "com/example/shelfmark/shelfmark/text/XmlChars", name := "isChar", desc := "(I)Z" } : Jvm.MethodName) prog_16_method_2_code (1 : Nat) (Option.some Jvm.ClassFile.FieldType.boolean)).before args0 about1 = true := code_word (m := ⟨2, 1⟩) (meth := k2m1) (c := k2c1) (by decide +kernel) rfl rfl rfl (by decide +kernel)
set_option maxRecDepth 65536 in
theorem w_c2 : (Jvm.Cond.code ({ cls := "com/example/shelfmark/shelfmark/text/XmlCharsIsCharPinLaw", name := "ref", desc := "(I)Z" } : Jvm.MethodName) method_2_code (1 : Nat) (Option.some Jvm.ClassFile.FieldType.boolean)).before args0 about1 = true := code_word (m := ⟨1, 1⟩) (meth := k1m1) (c := k1c1) (by decide +kernel) rfl rfl rfl (by decide +kernel)
def codes1 : List Jvm.Cond := [Jvm.Cond.code x code maxLocals ret, Jvm.Cond.code ({ cls := "com/example/shelfmark/shelfmark/text/XmlChars", name := "isChar", desc := "(I)Z" } : Jvm.MethodName) prog_16_method_2_code (1 : Nat) (Option.some Jvm.ClassFile.FieldType.boolean), Jvm.Cond.code ({ cls := "com/example/shelfmark/shelfmark/text/XmlCharsIsCharPinLaw", name := "ref", desc := "(I)Z" } : Jvm.MethodName) method_2_code (1 : Nat) (Option.some Jvm.ClassFile.FieldType.boolean)]
set_option maxRecDepth 65536 in
theorem codes_eq : words1.filter isCode = codes1 := rfl
theorem w_codes : ∀ c ∈ words1.filter isCode, c.before args0 about1 = true := by
  rw [codes_eq]
  intro c hc
  simp only [codes1, List.mem_cons, List.not_mem_nil, or_false] at hc
  rcases hc with rfl | rfl | rfl
  · exact w_c0
  · exact w_c1
  · exact w_c2
set_option maxRecDepth 65536 in
theorem w_t1 : (words1.take 24).all (fun c => isCode c || c.before args0 about1) = true := by decide +kernel
set_option maxRecDepth 65536 in
theorem w_t2 : (words1.drop 24).all (fun c => isCode c || c.before args0 about1) = true := by decide +kernel
theorem w_tables : (allAtoms (Jvm.Cond.code x code maxLocals ret :: tables_1)).before args0 about1 = true := by
  rw [allAtoms_all]
  show words1.all (fun c => c.before args0 about1) = true
  refine all_split ?_ w_codes
  rw [← List.take_append_drop 24 words1, List.all_append, w_t1, w_t2]
  rfl
set_option maxRecDepth 65536 in
theorem w_case : (Jvm.Cond.and given_1 narrow_1).before args0 about1 = true := by decide +kernel
theorem w_applies : (headSpec (Jvm.Cond.code x code maxLocals ret :: tables_1) room_1).applies x e0.platform about1 = true :=
  (Spec.applies_iff w_frames).mpr ⟨w_running, w_runnable, w_alone, w_named, w_hears, w_ripe, w_room, w_tables⟩
theorem atStart : AtStart classFile x code maxLocals ret World_1 tables_1 room_1 Calls_1 rest_1 Pre_1 launch0 p0 e0 about1 theMethod args0 below0 :=
  ⟨lists_1, trivial, launch0.admits_env _ _ _, launch0.least_env, fairChoices_fair.cas, fairChoices_fair.clock, w_frames, w_args, w_heap, w_applies, trivial, trivial, w_case⟩
end start1
theorem witness_1 : WitnessClaimed_1 := ⟨start1.p0, start1.e0, start1.about1, start1.theMethod, start1.args0, start1.below0, start1.atStart⟩
end Jvm.Pilot.@@N@@
