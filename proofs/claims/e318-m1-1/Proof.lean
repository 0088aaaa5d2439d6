import JvmDerived
import JvmDerived.Pilot.@@N@@Statement
import JvmDerived.Pilot.@@N@@Code
set_option linter.unusedVariables false
set_option linter.unusedSimpArgs false
namespace Jvm.RoadKit
open Sem ClassFile Op Lib Jvm.Stand Jvm.Free Jvm.LawKit
section New
variable {p : Program} {l : Launch} {e : Env} {R : Room} {s : State} {m : MethodId} {args : Array Value} {below : List Frame} {meth : Method} {c : Code} {T : State} {locs : List Loc} {cells slots : Nat}
theorem retI (X : Stand p l e R s m args below meth c T locs cells slots) (hx : p.tables.exec = Jvm.exec) {pc : Nat} {Ls : Array Slot} {z : Int32} {rest : List Value} (hret : meth.sig.returnType = some .int) (hd : decode c.code pc = .ok (.ireturn, 1)) {fs : List Frame}
    (hl : ∀ (f : JFrame) (acts : List Action), f.method = m → f.locked = none → f.entered = [] → (doReturn e (T.setTop f) acts (some (.int z))).1 = T.setFrames fs) : Steps p.tables e below (T.setTop (mkF m pc Ls (.int z :: rest))) (T.setFrames fs) :=
  retOut X hx hret rfl (Or.inl ⟨rfl, Or.inl rfl, z, rfl⟩) hd hl
theorem retL (X : Stand p l e R s m args below meth c T locs cells slots) (hx : p.tables.exec = Jvm.exec) {pc : Nat} {Ls : Array Slot} {z : Int64} {rest : List Value} (hret : meth.sig.returnType = some .long) (hd : decode c.code pc = .ok (.lreturn, 1)) {fs : List Frame}
    (hl : ∀ (f : JFrame) (acts : List Action), f.method = m → f.locked = none → f.entered = [] → (doReturn e (T.setTop f) acts (some (.long z))).1 = T.setFrames fs) : Steps p.tables e below (T.setTop (mkF m pc Ls (.long z :: rest))) (T.setFrames fs) :=
  retOut X hx hret rfl (Or.inr (Or.inl ⟨rfl, rfl, z, rfl⟩)) hd hl
theorem retA (X : Stand p l e R s m args below meth c T locs cells slots) (hx : p.tables.exec = Jvm.exec) {pc : Nat} {Ls : Array Slot} {w : Value} {t : FieldType} {rest : List Value} (hret : meth.sig.returnType = some t) (ht : t.isReference = true) (hv : w.isRef = true) (hd : decode c.code pc = .ok (.areturn, 1)) {fs : List Frame}
    (hl : ∀ (f : JFrame) (acts : List Action), f.method = m → f.locked = none → f.entered = [] → (doReturn e (T.setTop f) acts (some w)).1 = T.setFrames fs) : Steps p.tables e below (T.setTop (mkF m pc Ls (w :: rest))) (T.setFrames fs) :=
  retOut X hx hret (by cases w <;> first | (simp [Value.isRef] at hv; done) | (cases t <;> first | rfl | (simp [FieldType.isReference] at ht; done))) (Or.inr (Or.inr (Or.inr (Or.inr ⟨rfl, ht, hv⟩)))) hd hl
/-- from here the run comes to an end of which P holds -/
def Go (tb : Tables) (e : Env) (below : List Frame) (P : State → Outcome → Prop) (A : State) : Prop := ∃ s₂ o, Steps tb e below A s₂ ∧ P s₂ o
theorem Go.via {tb : Tables} {e : Env} {below : List Frame} {P : State → Outcome → Prop} {A B : State} (st : ∀ t, Steps tb e below B t → Steps tb e below A t) (g : Go tb e below P B) : Go tb e below P A := by
  obtain ⟨s2, o, h, r⟩ := g
  exact ⟨s2, o, st _ h, r⟩
/-- what a contract says of the end -/
def PQ (s : State) (below : List Frame) (Q : Option Value → Heap → List Loc → Prop) (k n : Nat) (s₂ : State) (o : Outcome) : Prop := s₂.status = .running ∧ Ended s₂ below o ∧ ∃ v L, o = .returned v ∧ Q v s₂.heap L ∧ FrameEnd s o s₂ L k n
theorem Go.leave (X : Stand p l e R s m args below meth c T locs cells slots) (hlk : meth.locks = false) {v : Option Value} (hv : meth.sig.returnType = none → v = none) {A : State} {Q : Option Value → Heap → List Loc → Prop} {k n : Nat}
    (last : ∀ fs : List Frame, (∀ (f : JFrame) (acts : List Action), f.method = m → f.locked = none → f.entered = [] → (doReturn e (T.setTop f) acts v).1 = T.setFrames fs) → Steps p.tables e below A (T.setFrames fs)) (hk : cells ≤ k) (hn : slots ≤ n) (q : Q v T.heap locs) : Go p.tables e below (PQ s below Q k n) A := by
  obtain ⟨fs, hr, hrun, hended, hW, hsame⟩ := X.leave (v := v) hv hlk
  exact ⟨_, _, last fs hr, hrun, hended, _, _, rfl, q, ⟨_, rfl⟩, hW, hsame.mono hk hn⟩
end New
end Jvm.RoadKit
namespace Jvm.RoadKit
open Sem ClassFile Op Lib Jvm.Stand Jvm.Free Jvm.LawKit
section Ary
variable {p : Program} {l : Launch} {e : Env} {R : Room} {s : State} {m : MethodId} {args : Array Value} {below : List Frame} {meth : Method} {c : Code} {T : State} {locs : List Loc} {cells slots : Nat} {Z : State} {h h' : Heap} {a b : Addr} {ty : FieldType} {n : Nat} {f : Nat → Int32}
/-- the array at a: n places, the i-th holds f i -/
def Ary (Z : State) (h : Heap) (a : Addr) (ty : FieldType) (n : Nat) (f : Nat → Int32) : Prop := ∃ c : Cell, Arr Z h a c ty ∧ c.slots.size = n ∧ n < 2 ^ 31 ∧ ∀ i, i < n → c.slots[i]? = some (.int (f i)) ∧ fits ty (.int (f i)) = true
def arrUpd (f : Nat → Int32) (j : Nat) (x : Int32) (i : Nat) : Int32 := if i = j then x else f i
theorem Ary.lt (F : Ary Z h a ty n f) : a < h.size := by obtain ⟨c, A, -⟩ := F; exact A.lt
theorem Ary.ext (F : Ary Z h a ty n f) (E : Ext h h') : Ary Z h' a ty n f := by obtain ⟨c, A, r⟩ := F; exact ⟨c, A.ext E, r⟩
theorem Ary.other {sl : Nat} {v : Value} (F : Ary Z h b ty n f) (W : Wr h h' a sl v) (q : b ≠ a) : Ary Z h' b ty n f := by obtain ⟨c, A, r⟩ := F; exact ⟨c, A.other W q, r⟩
theorem Ary.keep {ws : List Addr} (F : Ary Z h a ty n f) (K : Keep h h' ws) (q : a ∉ ws) : Ary Z h' a ty n f := by obtain ⟨c, A, r⟩ := F; exact ⟨c, ⟨K.2.1 a c A.1 q, A.2⟩, r⟩
theorem Ary.new {k : ClassId} {z : Int32} (A : Arr Z h a (newA k ty z) ty) (q : ¬ z < 0) (hd : defaultValue ty = .int 0) (hf : fits ty (.int 0) = true) : Ary Z h a ty z.toNatClampNeg (fun _ => 0) :=
  ⟨_, A, sz_new _ _ _, (back32 q).2, fun i hi => ⟨by simp [newA, hd, Array.getElem?_replicate, hi], hf⟩⟩
theorem Ary.set {j : Nat} {x : Int32} (F : Ary Z h a ty n f) (W : Wr h h' a j (.int x)) (hv : fits ty (.int x) = true) : Ary Z h' a ty n (arrUpd f j x) := by
  obtain ⟨c, A, S, B, H⟩ := F
  obtain ⟨cell, w1, w2, w3, w4⟩ := id W
  cases w1.symm.trans A.1
  refine ⟨_, A.same W, (sz_set _ _ _).trans S, B, fun i hi => ?_⟩
  have hi' : i < c.slots.size := by rw [S]; exact hi
  unfold arrUpd
  by_cases hj : i = j
  · subst hj
    rw [if_pos rfl]
    exact ⟨by simp [Cell.setSlot, Array.getElem?_setIfInBounds, hi'], hv⟩
  · rw [if_neg hj]
    refine ⟨?_, (H i hi).2⟩
    rw [← (H i hi).1]
    simp [Cell.setSlot, Array.getElem?_setIfInBounds, Ne.symm hj]
theorem aputI {n0 : Nat} {j x : Int32} {g : JFrame} {rest : List Value} (X : Stand p l e R s m args below meth c T locs cells slots) (hx : p.tables.exec = Jvm.exec) (hZ : Z.Warmed39 s.vm) (eT : T.heap = h) (A : Ary Z h a .int n f) (N : Fr n0 locs) (ge : n0 ≤ a) (hj : ¬ j < 0) (hn : j.toNatClampNeg < n)
    (hg : g.method = m) (hs : g.stack = .int x :: .int j :: .ref a :: rest) (hd : decode c.code g.pc = .ok (.iastore, 1)) :
    ∃ T' h' L', Stand p l e R s m args below meth c T' L' cells slots ∧ T'.heap = h' ∧ Fr n0 L' ∧ Wr h h' a j.toNatClampNeg (.int x) ∧ Ary Z h' a .int n (arrUpd f j.toNatClampNeg x) ∧ ∀ target, Steps p.tables e below (T'.setTop { g with pc := g.pc + 1, stack := rest }) target → Steps p.tables e below (T.setTop g) target := by
  obtain ⟨cl, Ar, S, B, H⟩ := id A
  obtain ⟨T', h', X', e', W, st⟩ := stI X hx hZ eT Ar (j := j) (x := x) (by rw [S]; intro q; rcases q with q | q; exact hj q; omega) hg hs hd
  exact ⟨T', h', _, X', e', Fr.snoc X' N ge, W, A.set W rfl, st⟩
theorem aputB {n0 : Nat} {j x : Int32} {g : JFrame} {rest : List Value} (X : Stand p l e R s m args below meth c T locs cells slots) (hx : p.tables.exec = Jvm.exec) (hZ : Z.Warmed39 s.vm) (eT : T.heap = h) (A : Ary Z h a .byte n f) (N : Fr n0 locs) (ge : n0 ≤ a) (hj : ¬ j < 0) (hn : j.toNatClampNeg < n)
    (hg : g.method = m) (hs : g.stack = .int x :: .int j :: .ref a :: rest) (hd : decode c.code g.pc = .ok (.bastore, 1)) :
    ∃ T' h' L', Stand p l e R s m args below meth c T' L' cells slots ∧ T'.heap = h' ∧ Fr n0 L' ∧ Wr h h' a j.toNatClampNeg (.int x.toInt8.toInt32) ∧ Ary Z h' a .byte n (arrUpd f j.toNatClampNeg x.toInt8.toInt32) ∧ ∀ target, Steps p.tables e below (T'.setTop { g with pc := g.pc + 1, stack := rest }) target → Steps p.tables e below (T.setTop g) target := by
  obtain ⟨cl, Ar, S, B, H⟩ := id A
  obtain ⟨T', h', X', e', W, st⟩ := stB X hx hZ eT Ar (j := j) (x := x) (by rw [S]; intro q; rcases q with q | q; exact hj q; omega) hg hs hd
  exact ⟨T', h', _, X', e', Fr.snoc X' N ge, W, A.set W (fits_nar_byte x), st⟩
theorem agetI {j : Int32} {g : JFrame} {rest : List Value} (X : Stand p l e R s m args below meth c T locs cells slots) (hx : p.tables.exec = Jvm.exec) (hZ : Z.Warmed39 s.vm) (eT : T.heap = h) (A : Ary Z h a .int n f) (hj : ¬ j < 0) (hn : j.toNatClampNeg < n)
    (hg : g.method = m) (hs : g.stack = .int j :: .ref a :: rest) (hd : decode c.code g.pc = .ok (.iaload, 1)) (target : State) (k : Steps p.tables e below (T.setTop { g with pc := g.pc + 1, stack := .int (f j.toNatClampNeg) :: rest }) target) : Steps p.tables e below (T.setTop g) target := by
  obtain ⟨cl, Ar, S, B, H⟩ := A
  exact X.iaload hx (j := j) (v := .int (f j.toNatClampNeg)) (by rw [eT]; exact Ar.1) (State.isArrayOf_alike hZ.alike Ar.2.1) Ar.2.2 (by rw [S]; intro q; rcases q with q | q; exact hj q; omega) (H _ hn).1 hg hs hd target k
theorem agetB {j : Int32} {g : JFrame} {rest : List Value} (X : Stand p l e R s m args below meth c T locs cells slots) (hx : p.tables.exec = Jvm.exec) (hZ : Z.Warmed39 s.vm) (eT : T.heap = h) (A : Ary Z h a .byte n f) (hj : ¬ j < 0) (hn : j.toNatClampNeg < n)
    (hg : g.method = m) (hs : g.stack = .int j :: .ref a :: rest) (hd : decode c.code g.pc = .ok (.baload, 1)) (target : State) (k : Steps p.tables e below (T.setTop { g with pc := g.pc + 1, stack := .int (f j.toNatClampNeg) :: rest }) target) : Steps p.tables e below (T.setTop g) target := by
  obtain ⟨cl, Ar, S, B, H⟩ := A
  exact X.baloadBytes hx (j := j) (v := .int (f j.toNatClampNeg)) (by rw [eT]; exact Ar.1) (State.isArrayOf_alike hZ.alike Ar.2.1) Ar.2.2 (by rw [S]; intro q; rcases q with q | q; exact hj q; omega) (H _ hn).1 hg hs hd target k
theorem alen {g : JFrame} {rest : List Value} (X : Stand p l e R s m args below meth c T locs cells slots) (hx : p.tables.exec = Jvm.exec) (hZ : Z.Warmed39 s.vm) (eT : T.heap = h) (A : Ary Z h a ty n f)
    (hg : g.method = m) (hs : g.stack = .ref a :: rest) (hd : decode c.code g.pc = .ok (.arraylength, 1)) (target : State) (k : Steps p.tables e below (T.setTop { g with pc := g.pc + 1, stack := .int n.toInt32 :: rest }) target) : Steps p.tables e below (T.setTop g) target := by
  obtain ⟨cl, Ar, S, B, H⟩ := A
  exact X.arraylength hx (by rw [eT]; exact Ar.1) (State.isArrayOf_alike hZ.alike Ar.2.1) hg hs hd target (by rw [S]; exact k)
end Ary
end Jvm.RoadKit
namespace Jvm.Pilot.@@N@@
open Jvm Jvm.ClassFile Sem Op Lib Jvm.Free Jvm.Stand Jvm.LawKit Jvm.RoadKit Bundle Jvm.Pilot.@@N@@.Jvm.D

theorem pd0 : parseMethodDescriptor "(I)Z" = some ⟨[.int], some .boolean⟩ := by decide +kernel
theorem d1_0 : decode prog_38_method_4_code 0 = .ok (.iload_n 0, 1) := by decide +kernel
theorem d1_1 : decode prog_38_method_4_code 1 = .ok (.bipush 97, 2) := by decide +kernel
theorem d1_3 : decode prog_38_method_4_code 3 = .ok (.if_icmp .lt 9, 3) := by decide +kernel
theorem d1_6 : decode prog_38_method_4_code 6 = .ok (.iload_n 0, 1) := by decide +kernel
theorem d1_7 : decode prog_38_method_4_code 7 = .ok (.bipush 122, 2) := by decide +kernel
theorem d1_9 : decode prog_38_method_4_code 9 = .ok (.if_icmp .le 182, 3) := by decide +kernel
theorem d1_12 : decode prog_38_method_4_code 12 = .ok (.iload_n 0, 1) := by decide +kernel
theorem d1_13 : decode prog_38_method_4_code 13 = .ok (.bipush 65, 2) := by decide +kernel
theorem d1_15 : decode prog_38_method_4_code 15 = .ok (.if_icmp .lt 9, 3) := by decide +kernel
theorem d1_18 : decode prog_38_method_4_code 18 = .ok (.iload_n 0, 1) := by decide +kernel
theorem d1_19 : decode prog_38_method_4_code 19 = .ok (.bipush 90, 2) := by decide +kernel
theorem d1_21 : decode prog_38_method_4_code 21 = .ok (.if_icmp .le 170, 3) := by decide +kernel
theorem d1_24 : decode prog_38_method_4_code 24 = .ok (.iload_n 0, 1) := by decide +kernel
theorem d1_25 : decode prog_38_method_4_code 25 = .ok (.bipush 95, 2) := by decide +kernel
theorem d1_27 : decode prog_38_method_4_code 27 = .ok (.if_icmp .eq 164, 3) := by decide +kernel
theorem d1_30 : decode prog_38_method_4_code 30 = .ok (.iload_n 0, 1) := by decide +kernel
theorem d1_31 : decode prog_38_method_4_code 31 = .ok (.sipush 192, 3) := by decide +kernel
theorem d1_34 : decode prog_38_method_4_code 34 = .ok (.if_icmp .lt 10, 3) := by decide +kernel
theorem d1_37 : decode prog_38_method_4_code 37 = .ok (.iload_n 0, 1) := by decide +kernel
theorem d1_38 : decode prog_38_method_4_code 38 = .ok (.sipush 214, 3) := by decide +kernel
theorem d1_41 : decode prog_38_method_4_code 41 = .ok (.if_icmp .le 150, 3) := by decide +kernel
theorem d1_44 : decode prog_38_method_4_code 44 = .ok (.iload_n 0, 1) := by decide +kernel
theorem d1_45 : decode prog_38_method_4_code 45 = .ok (.sipush 216, 3) := by decide +kernel
theorem d1_48 : decode prog_38_method_4_code 48 = .ok (.if_icmp .lt 10, 3) := by decide +kernel
theorem d1_51 : decode prog_38_method_4_code 51 = .ok (.iload_n 0, 1) := by decide +kernel
theorem d1_52 : decode prog_38_method_4_code 52 = .ok (.sipush 246, 3) := by decide +kernel
theorem d1_55 : decode prog_38_method_4_code 55 = .ok (.if_icmp .le 136, 3) := by decide +kernel
theorem d1_58 : decode prog_38_method_4_code 58 = .ok (.iload_n 0, 1) := by decide +kernel
theorem d1_59 : decode prog_38_method_4_code 59 = .ok (.sipush 248, 3) := by decide +kernel
theorem d1_62 : decode prog_38_method_4_code 62 = .ok (.if_icmp .lt 10, 3) := by decide +kernel
theorem d1_65 : decode prog_38_method_4_code 65 = .ok (.iload_n 0, 1) := by decide +kernel
theorem d1_66 : decode prog_38_method_4_code 66 = .ok (.sipush 767, 3) := by decide +kernel
theorem d1_69 : decode prog_38_method_4_code 69 = .ok (.if_icmp .le 122, 3) := by decide +kernel
theorem d1_72 : decode prog_38_method_4_code 72 = .ok (.iload_n 0, 1) := by decide +kernel
theorem d1_73 : decode prog_38_method_4_code 73 = .ok (.sipush 880, 3) := by decide +kernel
theorem d1_76 : decode prog_38_method_4_code 76 = .ok (.if_icmp .lt 10, 3) := by decide +kernel
theorem d1_79 : decode prog_38_method_4_code 79 = .ok (.iload_n 0, 1) := by decide +kernel
theorem d1_80 : decode prog_38_method_4_code 80 = .ok (.sipush 893, 3) := by decide +kernel
theorem d1_83 : decode prog_38_method_4_code 83 = .ok (.if_icmp .le 108, 3) := by decide +kernel
theorem d1_86 : decode prog_38_method_4_code 86 = .ok (.iload_n 0, 1) := by decide +kernel
theorem d1_87 : decode prog_38_method_4_code 87 = .ok (.sipush 895, 3) := by decide +kernel
theorem d1_90 : decode prog_38_method_4_code 90 = .ok (.if_icmp .lt 10, 3) := by decide +kernel
theorem d1_93 : decode prog_38_method_4_code 93 = .ok (.iload_n 0, 1) := by decide +kernel
theorem d1_94 : decode prog_38_method_4_code 94 = .ok (.sipush 8191, 3) := by decide +kernel
theorem d1_97 : decode prog_38_method_4_code 97 = .ok (.if_icmp .le 94, 3) := by decide +kernel
theorem d1_100 : decode prog_38_method_4_code 100 = .ok (.iload_n 0, 1) := by decide +kernel
theorem d1_101 : decode prog_38_method_4_code 101 = .ok (.sipush 8204, 3) := by decide +kernel
theorem d1_104 : decode prog_38_method_4_code 104 = .ok (.if_icmp .lt 10, 3) := by decide +kernel
theorem d1_107 : decode prog_38_method_4_code 107 = .ok (.iload_n 0, 1) := by decide +kernel
theorem d1_108 : decode prog_38_method_4_code 108 = .ok (.sipush 8205, 3) := by decide +kernel
theorem d1_111 : decode prog_38_method_4_code 111 = .ok (.if_icmp .le 80, 3) := by decide +kernel
theorem d1_114 : decode prog_38_method_4_code 114 = .ok (.iload_n 0, 1) := by decide +kernel
theorem d1_115 : decode prog_38_method_4_code 115 = .ok (.sipush 8304, 3) := by decide +kernel
theorem d1_118 : decode prog_38_method_4_code 118 = .ok (.if_icmp .lt 10, 3) := by decide +kernel
theorem d1_121 : decode prog_38_method_4_code 121 = .ok (.iload_n 0, 1) := by decide +kernel
theorem d1_122 : decode prog_38_method_4_code 122 = .ok (.sipush 8591, 3) := by decide +kernel
theorem d1_125 : decode prog_38_method_4_code 125 = .ok (.if_icmp .le 66, 3) := by decide +kernel
theorem d1_128 : decode prog_38_method_4_code 128 = .ok (.iload_n 0, 1) := by decide +kernel
theorem d1_129 : decode prog_38_method_4_code 129 = .ok (.sipush 11264, 3) := by decide +kernel
theorem d1_132 : decode prog_38_method_4_code 132 = .ok (.if_icmp .lt 10, 3) := by decide +kernel
theorem d1_135 : decode prog_38_method_4_code 135 = .ok (.iload_n 0, 1) := by decide +kernel
theorem d1_136 : decode prog_38_method_4_code 136 = .ok (.sipush 12271, 3) := by decide +kernel
theorem d1_139 : decode prog_38_method_4_code 139 = .ok (.if_icmp .le 52, 3) := by decide +kernel
theorem d1_142 : decode prog_38_method_4_code 142 = .ok (.iload_n 0, 1) := by decide +kernel
theorem d1_143 : decode prog_38_method_4_code 143 = .ok (.sipush 12289, 3) := by decide +kernel
theorem d1_146 : decode prog_38_method_4_code 146 = .ok (.if_icmp .lt 9, 3) := by decide +kernel
theorem d1_149 : decode prog_38_method_4_code 149 = .ok (.iload_n 0, 1) := by decide +kernel
theorem d1_150 : decode prog_38_method_4_code 150 = .ok (.ldc 36, 2) := by decide +kernel
theorem d1_152 : decode prog_38_method_4_code 152 = .ok (.if_icmp .le 39, 3) := by decide +kernel
theorem d1_155 : decode prog_38_method_4_code 155 = .ok (.iload_n 0, 1) := by decide +kernel
theorem d1_156 : decode prog_38_method_4_code 156 = .ok (.ldc 37, 2) := by decide +kernel
theorem d1_158 : decode prog_38_method_4_code 158 = .ok (.if_icmp .lt 9, 3) := by decide +kernel
theorem d1_161 : decode prog_38_method_4_code 161 = .ok (.iload_n 0, 1) := by decide +kernel
theorem d1_162 : decode prog_38_method_4_code 162 = .ok (.ldc 38, 2) := by decide +kernel
theorem d1_164 : decode prog_38_method_4_code 164 = .ok (.if_icmp .le 27, 3) := by decide +kernel
theorem d1_167 : decode prog_38_method_4_code 167 = .ok (.iload_n 0, 1) := by decide +kernel
theorem d1_168 : decode prog_38_method_4_code 168 = .ok (.ldc 39, 2) := by decide +kernel
theorem d1_170 : decode prog_38_method_4_code 170 = .ok (.if_icmp .lt 9, 3) := by decide +kernel
theorem d1_173 : decode prog_38_method_4_code 173 = .ok (.iload_n 0, 1) := by decide +kernel
theorem d1_174 : decode prog_38_method_4_code 174 = .ok (.ldc 40, 2) := by decide +kernel
theorem d1_176 : decode prog_38_method_4_code 176 = .ok (.if_icmp .le 15, 3) := by decide +kernel
theorem d1_179 : decode prog_38_method_4_code 179 = .ok (.iload_n 0, 1) := by decide +kernel
theorem d1_180 : decode prog_38_method_4_code 180 = .ok (.ldc 41, 2) := by decide +kernel
theorem d1_182 : decode prog_38_method_4_code 182 = .ok (.if_icmp .lt 13, 3) := by decide +kernel
theorem d1_185 : decode prog_38_method_4_code 185 = .ok (.iload_n 0, 1) := by decide +kernel
theorem d1_186 : decode prog_38_method_4_code 186 = .ok (.ldc 42, 2) := by decide +kernel
theorem d1_188 : decode prog_38_method_4_code 188 = .ok (.if_icmp .gt 7, 3) := by decide +kernel
theorem d1_191 : decode prog_38_method_4_code 191 = .ok (.iconst 1, 1) := by decide +kernel
theorem d1_192 : decode prog_38_method_4_code 192 = .ok (.goto 4, 3) := by decide +kernel
theorem d1_195 : decode prog_38_method_4_code 195 = .ok (.iconst 0, 1) := by decide +kernel
theorem d1_196 : decode prog_38_method_4_code 196 = .ok (.ireturn, 1) := by decide +kernel
theorem pn_1 : plainName "com/example/stylesheet_processor/stylesheetprocessor/model/Names" = true := by first | (simp [plainName, overriddenIn]; done) | decide +kernel
theorem ef_1 (m : MethodId) (x0 : Int32) : entryFrame m #[(.int x0)] 1 = mkF m 0 #[.val (.int x0)] [] := by first | (simp [entryFrame, mkF, argsToLocals, Value.category]; done) | rfl
def F1_195 (x : Int32) : Int32 := (0 : Int32)
def F1_191 (x : Int32) : Int32 := (1 : Int32)
def F1_185 (x : Int32) : Int32 := if (983039 : Int32) < x then F1_195 x else F1_191 x
def F1_179 (x : Int32) : Int32 := if x < (65536 : Int32) then F1_195 x else F1_185 x
def F1_173 (x : Int32) : Int32 := if (65533 : Int32) < x then F1_179 x else F1_191 x
def F1_167 (x : Int32) : Int32 := if x < (65008 : Int32) then F1_179 x else F1_173 x
def F1_161 (x : Int32) : Int32 := if (64975 : Int32) < x then F1_167 x else F1_191 x
def F1_155 (x : Int32) : Int32 := if x < (63744 : Int32) then F1_167 x else F1_161 x
def F1_149 (x : Int32) : Int32 := if (55295 : Int32) < x then F1_155 x else F1_191 x
def F1_142 (x : Int32) : Int32 := if x < (12289 : Int32) then F1_155 x else F1_149 x
def F1_135 (x : Int32) : Int32 := if (12271 : Int32) < x then F1_142 x else F1_191 x
def F1_128 (x : Int32) : Int32 := if x < (11264 : Int32) then F1_142 x else F1_135 x
def F1_121 (x : Int32) : Int32 := if (8591 : Int32) < x then F1_128 x else F1_191 x
def F1_114 (x : Int32) : Int32 := if x < (8304 : Int32) then F1_128 x else F1_121 x
def F1_107 (x : Int32) : Int32 := if (8205 : Int32) < x then F1_114 x else F1_191 x
def F1_100 (x : Int32) : Int32 := if x < (8204 : Int32) then F1_114 x else F1_107 x
def F1_93 (x : Int32) : Int32 := if (8191 : Int32) < x then F1_100 x else F1_191 x
def F1_86 (x : Int32) : Int32 := if x < (895 : Int32) then F1_100 x else F1_93 x
def F1_79 (x : Int32) : Int32 := if (893 : Int32) < x then F1_86 x else F1_191 x
def F1_72 (x : Int32) : Int32 := if x < (880 : Int32) then F1_86 x else F1_79 x
def F1_65 (x : Int32) : Int32 := if (767 : Int32) < x then F1_72 x else F1_191 x
def F1_58 (x : Int32) : Int32 := if x < (248 : Int32) then F1_72 x else F1_65 x
def F1_51 (x : Int32) : Int32 := if (246 : Int32) < x then F1_58 x else F1_191 x
def F1_44 (x : Int32) : Int32 := if x < (216 : Int32) then F1_58 x else F1_51 x
def F1_37 (x : Int32) : Int32 := if (214 : Int32) < x then F1_44 x else F1_191 x
def F1_30 (x : Int32) : Int32 := if x < (192 : Int32) then F1_44 x else F1_37 x
def F1_24 (x : Int32) : Int32 := if x = (95 : Int32) then F1_191 x else F1_30 x
def F1_18 (x : Int32) : Int32 := if (90 : Int32) < x then F1_24 x else F1_191 x
def F1_12 (x : Int32) : Int32 := if x < (65 : Int32) then F1_24 x else F1_18 x
def F1_6 (x : Int32) : Int32 := if (122 : Int32) < x then F1_12 x else F1_191 x
def F1_0 (x : Int32) : Int32 := if x < (97 : Int32) then F1_12 x else F1_6 x
def Q1 (Z : State) (x : Int32) (h0 : Heap) (n0 : Nat) (v_ : Option Value) (h_ : Heap) (L_ : List Loc) : Prop := v_ = some (.int (F1_0 x)) ∧ Fr n0 L_ ∧ h_ = h0
set_option maxRecDepth 65536 in
set_option maxHeartbeats 40000000 in
theorem rm1 (l : Launch) (Z : State) (a0 : Array Value) (hw : ∀ d ∈ tables_1, d.before a0 Z = true) (ws : List Jvm.Cond) (x : Int32) (h0 : Heap) (n0 : Nat) (Z0 : n0 ≤ h0.size) :
    MetFree l (⟨"com/example/stylesheet_processor/stylesheetprocessor/model/Names", "isNCNameStartChar", "(I)Z"⟩ : MethodName) (head1 (Jvm.Cond.code (⟨"com/example/stylesheet_processor/stylesheetprocessor/model/Names", "isNCNameStartChar", "(I)Z"⟩ : MethodName) prog_38_method_4_code 1 (some .boolean) :: ws) ({ frames := 0, cells := 0, slots := 0, locals := 0 } : Room)) (fun a_ U_ => a_ = #[(.int x)] ∧ Z.Warmed39 U_.vm ∧ U_.heap = h0) (fun _ _ _ _ _ => True) (fun _ U_ o_ V_ => ∃ v_ L_, o_ = .returned v_ ∧ Q1 Z x h0 n0 v_ V_.heap L_ ∧ FrameEnd U_ o_ V_ L_ ({ frames := 0, cells := 0, slots := 0, locals := 0 } : Room).cells ({ frames := 0, cells := 0, slots := 0, locals := 0 } : Room).slots) := by
  refine MetFree.of_bodySF (plainFor_of_name pn_1) hisR ?_
  intro p e s m args below meth c s₁ Bd hml0 hP hK
  obtain ⟨rfl, hZ, hh⟩ := hP
  have hx := Bd.exec
  have hby := Bd.bytes
  have hml : c.maxLocals = 1 := hml0
  have hown : s.vm.findClass "com/example/stylesheet_processor/stylesheetprocessor/model/Names" = some m.cls := findClass_of_methodNamed Bd.named
  have hnm := (name_of_methodNamed Bd.named Bd.method).1
  have hlk : meth.locks = false := BodyLoose.notSynchronized Bd
  have hrt := Bd.returns
  have X0 : Stand p l e ({ frames := 0, cells := 0, slots := 0, locals := 0 } : Room) s m #[(.int x)] below meth c s₁ [] 0 0 := Stand.of_body Bd
  have e0 : s₁.heap = h0 := by rw [← hh, Bd.state]; rfl
  have N0 := Fr.nil n0
  show Go p.tables e below (PQ s below (Q1 Z x h0 n0) 0 0) _
  have t195 : Go p.tables e below (PQ s below (fun v_ h_ L_ => v_ = some (.int (F1_195 x)) ∧ Fr n0 L_ ∧ h_ = h0) 0 0) (s₁.setTop (mkF m 195 #[.val (.int x)] [])) := by
    refine Go.via (B := s₁.setTop (mkF m 196 #[.val (.int x)] [(.int (0 : Int32))])) (fun t_ k_ => ?_) ?_
    · show Steps p.tables e below (s₁.setTop (mkF m 195 #[.val (.int x)] [])) t_
      refine XS.iconst X0.here hx rfl (hb hby d1_195) ?_
      show Steps p.tables e below (s₁.setTop (mkF m 196 #[.val (.int x)] [(.int (0 : Int32))])) t_
      exact k_
    exact Go.leave X0 hlk (v := (some (.int (0 : Int32)))) (fun h => by rw [hrt] at h; cases h) (fun fs hr => retN X0 hx (t := .boolean) hrt (by simp) (hb hby d1_196) hr) (by decide) (by decide) (⟨rfl, N0, e0⟩)
  have t191 : Go p.tables e below (PQ s below (fun v_ h_ L_ => v_ = some (.int (F1_191 x)) ∧ Fr n0 L_ ∧ h_ = h0) 0 0) (s₁.setTop (mkF m 191 #[.val (.int x)] [])) := by
    refine Go.via (B := s₁.setTop (mkF m 196 #[.val (.int x)] [(.int (1 : Int32))])) (fun t_ k_ => ?_) ?_
    · show Steps p.tables e below (s₁.setTop (mkF m 191 #[.val (.int x)] [])) t_
      refine XS.iconst X0.here hx rfl (hb hby d1_191) ?_
      show Steps p.tables e below (s₁.setTop (mkF m 192 #[.val (.int x)] [(.int (1 : Int32))])) t_
      refine XS.goto X0.here hx rfl (pc0 := 192) (pc' := 196) rfl (hb hby d1_192) (by decide) (by decide) ?_
      show Steps p.tables e below (s₁.setTop (mkF m 196 #[.val (.int x)] [(.int (1 : Int32))])) t_
      exact k_
    exact Go.leave X0 hlk (v := (some (.int (1 : Int32)))) (fun h => by rw [hrt] at h; cases h) (fun fs hr => retN X0 hx (t := .boolean) hrt (by simp) (hb hby d1_196) hr) (by decide) (by decide) (⟨rfl, N0, e0⟩)
  have t185 : Go p.tables e below (PQ s below (fun v_ h_ L_ => v_ = some (.int (F1_185 x)) ∧ Fr n0 L_ ∧ h_ = h0) 0 0) (s₁.setTop (mkF m 185 #[.val (.int x)] [])) := by
    refine Go.via (B := s₁.setTop (mkF m 188 #[.val (.int x)] [(.int (983039 : Int32)), (.int x)])) (fun t_ k_ => ?_) ?_
    · show Steps p.tables e below (s₁.setTop (mkF m 185 #[.val (.int x)] [])) t_
      refine XS.iloadN X0.here hx rfl (hb hby d1_185) rfl ?_
      show Steps p.tables e below (s₁.setTop (mkF m 186 #[.val (.int x)] [(.int x)])) t_
      refine X0.ldcInt hx hown (mvT hZ (hw _ (List.mem_of_getElem? (i := 29) rfl))) (g := (mkF m 186 #[.val (.int x)] [(.int x)])) rfl (hb hby d1_186) _ ?_
      show Steps p.tables e below (s₁.setTop (mkF m 188 #[.val (.int x)] [(.int (983039 : Int32)), (.int x)])) t_
      exact k_
    by_cases hc188 : (983039 : Int32) < x
    · rw [show F1_185 x = F1_195 x from if_pos hc188]
      refine Go.via (B := s₁.setTop (mkF m 195 #[.val (.int x)] [])) (fun t_ k_ => XS.icmpYes X0.here hx rfl (pc0 := 188) (pc' := 195) rfl (hb hby d1_188) rfl ((tlt hc188).2.2.1) (by decide) (by decide) k_) ?_
      exact t195
    · rw [show F1_185 x = F1_191 x from if_neg hc188]
      refine Go.via (B := s₁.setTop (mkF m 191 #[.val (.int x)] [])) (fun t_ k_ => XS.icmpNo X0.here hx rfl (hb hby d1_188) rfl ((flt hc188).2.2.1) k_) ?_
      exact t191
  have t179 : Go p.tables e below (PQ s below (fun v_ h_ L_ => v_ = some (.int (F1_179 x)) ∧ Fr n0 L_ ∧ h_ = h0) 0 0) (s₁.setTop (mkF m 179 #[.val (.int x)] [])) := by
    refine Go.via (B := s₁.setTop (mkF m 182 #[.val (.int x)] [(.int (65536 : Int32)), (.int x)])) (fun t_ k_ => ?_) ?_
    · show Steps p.tables e below (s₁.setTop (mkF m 179 #[.val (.int x)] [])) t_
      refine XS.iloadN X0.here hx rfl (hb hby d1_179) rfl ?_
      show Steps p.tables e below (s₁.setTop (mkF m 180 #[.val (.int x)] [(.int x)])) t_
      refine X0.ldcInt hx hown (mvT hZ (hw _ (List.mem_of_getElem? (i := 16) rfl))) (g := (mkF m 180 #[.val (.int x)] [(.int x)])) rfl (hb hby d1_180) _ ?_
      show Steps p.tables e below (s₁.setTop (mkF m 182 #[.val (.int x)] [(.int (65536 : Int32)), (.int x)])) t_
      exact k_
    by_cases hc182 : x < (65536 : Int32)
    · rw [show F1_179 x = F1_195 x from if_pos hc182]
      refine Go.via (B := s₁.setTop (mkF m 195 #[.val (.int x)] [])) (fun t_ k_ => XS.icmpYes X0.here hx rfl (pc0 := 182) (pc' := 195) rfl (hb hby d1_182) rfl ((tlt hc182).1) (by decide) (by decide) k_) ?_
      exact t195
    · rw [show F1_179 x = F1_185 x from if_neg hc182]
      refine Go.via (B := s₁.setTop (mkF m 185 #[.val (.int x)] [])) (fun t_ k_ => XS.icmpNo X0.here hx rfl (hb hby d1_182) rfl ((flt hc182).1) k_) ?_
      exact t185
  have t173 : Go p.tables e below (PQ s below (fun v_ h_ L_ => v_ = some (.int (F1_173 x)) ∧ Fr n0 L_ ∧ h_ = h0) 0 0) (s₁.setTop (mkF m 173 #[.val (.int x)] [])) := by
    refine Go.via (B := s₁.setTop (mkF m 176 #[.val (.int x)] [(.int (65533 : Int32)), (.int x)])) (fun t_ k_ => ?_) ?_
    · show Steps p.tables e below (s₁.setTop (mkF m 173 #[.val (.int x)] [])) t_
      refine XS.iloadN X0.here hx rfl (hb hby d1_173) rfl ?_
      show Steps p.tables e below (s₁.setTop (mkF m 174 #[.val (.int x)] [(.int x)])) t_
      refine X0.ldcInt hx hown (mvT hZ (hw _ (List.mem_of_getElem? (i := 28) rfl))) (g := (mkF m 174 #[.val (.int x)] [(.int x)])) rfl (hb hby d1_174) _ ?_
      show Steps p.tables e below (s₁.setTop (mkF m 176 #[.val (.int x)] [(.int (65533 : Int32)), (.int x)])) t_
      exact k_
    by_cases hc176 : (65533 : Int32) < x
    · rw [show F1_173 x = F1_179 x from if_pos hc176]
      refine Go.via (B := s₁.setTop (mkF m 179 #[.val (.int x)] [])) (fun t_ k_ => XS.icmpNo X0.here hx rfl (hb hby d1_176) rfl ((tlt hc176).2.2.2) k_) ?_
      exact t179
    · rw [show F1_173 x = F1_191 x from if_neg hc176]
      refine Go.via (B := s₁.setTop (mkF m 191 #[.val (.int x)] [])) (fun t_ k_ => XS.icmpYes X0.here hx rfl (pc0 := 176) (pc' := 191) rfl (hb hby d1_176) rfl ((flt hc176).2.2.2) (by decide) (by decide) k_) ?_
      exact t191
  have t167 : Go p.tables e below (PQ s below (fun v_ h_ L_ => v_ = some (.int (F1_167 x)) ∧ Fr n0 L_ ∧ h_ = h0) 0 0) (s₁.setTop (mkF m 167 #[.val (.int x)] [])) := by
    refine Go.via (B := s₁.setTop (mkF m 170 #[.val (.int x)] [(.int (65008 : Int32)), (.int x)])) (fun t_ k_ => ?_) ?_
    · show Steps p.tables e below (s₁.setTop (mkF m 167 #[.val (.int x)] [])) t_
      refine XS.iloadN X0.here hx rfl (hb hby d1_167) rfl ?_
      show Steps p.tables e below (s₁.setTop (mkF m 168 #[.val (.int x)] [(.int x)])) t_
      refine X0.ldcInt hx hown (mvT hZ (hw _ (List.mem_of_getElem? (i := 15) rfl))) (g := (mkF m 168 #[.val (.int x)] [(.int x)])) rfl (hb hby d1_168) _ ?_
      show Steps p.tables e below (s₁.setTop (mkF m 170 #[.val (.int x)] [(.int (65008 : Int32)), (.int x)])) t_
      exact k_
    by_cases hc170 : x < (65008 : Int32)
    · rw [show F1_167 x = F1_179 x from if_pos hc170]
      refine Go.via (B := s₁.setTop (mkF m 179 #[.val (.int x)] [])) (fun t_ k_ => XS.icmpYes X0.here hx rfl (pc0 := 170) (pc' := 179) rfl (hb hby d1_170) rfl ((tlt hc170).1) (by decide) (by decide) k_) ?_
      exact t179
    · rw [show F1_167 x = F1_173 x from if_neg hc170]
      refine Go.via (B := s₁.setTop (mkF m 173 #[.val (.int x)] [])) (fun t_ k_ => XS.icmpNo X0.here hx rfl (hb hby d1_170) rfl ((flt hc170).1) k_) ?_
      exact t173
  have t161 : Go p.tables e below (PQ s below (fun v_ h_ L_ => v_ = some (.int (F1_161 x)) ∧ Fr n0 L_ ∧ h_ = h0) 0 0) (s₁.setTop (mkF m 161 #[.val (.int x)] [])) := by
    refine Go.via (B := s₁.setTop (mkF m 164 #[.val (.int x)] [(.int (64975 : Int32)), (.int x)])) (fun t_ k_ => ?_) ?_
    · show Steps p.tables e below (s₁.setTop (mkF m 161 #[.val (.int x)] [])) t_
      refine XS.iloadN X0.here hx rfl (hb hby d1_161) rfl ?_
      show Steps p.tables e below (s₁.setTop (mkF m 162 #[.val (.int x)] [(.int x)])) t_
      refine X0.ldcInt hx hown (mvT hZ (hw _ (List.mem_of_getElem? (i := 27) rfl))) (g := (mkF m 162 #[.val (.int x)] [(.int x)])) rfl (hb hby d1_162) _ ?_
      show Steps p.tables e below (s₁.setTop (mkF m 164 #[.val (.int x)] [(.int (64975 : Int32)), (.int x)])) t_
      exact k_
    by_cases hc164 : (64975 : Int32) < x
    · rw [show F1_161 x = F1_167 x from if_pos hc164]
      refine Go.via (B := s₁.setTop (mkF m 167 #[.val (.int x)] [])) (fun t_ k_ => XS.icmpNo X0.here hx rfl (hb hby d1_164) rfl ((tlt hc164).2.2.2) k_) ?_
      exact t167
    · rw [show F1_161 x = F1_191 x from if_neg hc164]
      refine Go.via (B := s₁.setTop (mkF m 191 #[.val (.int x)] [])) (fun t_ k_ => XS.icmpYes X0.here hx rfl (pc0 := 164) (pc' := 191) rfl (hb hby d1_164) rfl ((flt hc164).2.2.2) (by decide) (by decide) k_) ?_
      exact t191
  have t155 : Go p.tables e below (PQ s below (fun v_ h_ L_ => v_ = some (.int (F1_155 x)) ∧ Fr n0 L_ ∧ h_ = h0) 0 0) (s₁.setTop (mkF m 155 #[.val (.int x)] [])) := by
    refine Go.via (B := s₁.setTop (mkF m 158 #[.val (.int x)] [(.int (63744 : Int32)), (.int x)])) (fun t_ k_ => ?_) ?_
    · show Steps p.tables e below (s₁.setTop (mkF m 155 #[.val (.int x)] [])) t_
      refine XS.iloadN X0.here hx rfl (hb hby d1_155) rfl ?_
      show Steps p.tables e below (s₁.setTop (mkF m 156 #[.val (.int x)] [(.int x)])) t_
      refine X0.ldcInt hx hown (mvT hZ (hw _ (List.mem_of_getElem? (i := 14) rfl))) (g := (mkF m 156 #[.val (.int x)] [(.int x)])) rfl (hb hby d1_156) _ ?_
      show Steps p.tables e below (s₁.setTop (mkF m 158 #[.val (.int x)] [(.int (63744 : Int32)), (.int x)])) t_
      exact k_
    by_cases hc158 : x < (63744 : Int32)
    · rw [show F1_155 x = F1_167 x from if_pos hc158]
      refine Go.via (B := s₁.setTop (mkF m 167 #[.val (.int x)] [])) (fun t_ k_ => XS.icmpYes X0.here hx rfl (pc0 := 158) (pc' := 167) rfl (hb hby d1_158) rfl ((tlt hc158).1) (by decide) (by decide) k_) ?_
      exact t167
    · rw [show F1_155 x = F1_161 x from if_neg hc158]
      refine Go.via (B := s₁.setTop (mkF m 161 #[.val (.int x)] [])) (fun t_ k_ => XS.icmpNo X0.here hx rfl (hb hby d1_158) rfl ((flt hc158).1) k_) ?_
      exact t161
  have t149 : Go p.tables e below (PQ s below (fun v_ h_ L_ => v_ = some (.int (F1_149 x)) ∧ Fr n0 L_ ∧ h_ = h0) 0 0) (s₁.setTop (mkF m 149 #[.val (.int x)] [])) := by
    refine Go.via (B := s₁.setTop (mkF m 152 #[.val (.int x)] [(.int (55295 : Int32)), (.int x)])) (fun t_ k_ => ?_) ?_
    · show Steps p.tables e below (s₁.setTop (mkF m 149 #[.val (.int x)] [])) t_
      refine XS.iloadN X0.here hx rfl (hb hby d1_149) rfl ?_
      show Steps p.tables e below (s₁.setTop (mkF m 150 #[.val (.int x)] [(.int x)])) t_
      refine X0.ldcInt hx hown (mvT hZ (hw _ (List.mem_of_getElem? (i := 26) rfl))) (g := (mkF m 150 #[.val (.int x)] [(.int x)])) rfl (hb hby d1_150) _ ?_
      show Steps p.tables e below (s₁.setTop (mkF m 152 #[.val (.int x)] [(.int (55295 : Int32)), (.int x)])) t_
      exact k_
    by_cases hc152 : (55295 : Int32) < x
    · rw [show F1_149 x = F1_155 x from if_pos hc152]
      refine Go.via (B := s₁.setTop (mkF m 155 #[.val (.int x)] [])) (fun t_ k_ => XS.icmpNo X0.here hx rfl (hb hby d1_152) rfl ((tlt hc152).2.2.2) k_) ?_
      exact t155
    · rw [show F1_149 x = F1_191 x from if_neg hc152]
      refine Go.via (B := s₁.setTop (mkF m 191 #[.val (.int x)] [])) (fun t_ k_ => XS.icmpYes X0.here hx rfl (pc0 := 152) (pc' := 191) rfl (hb hby d1_152) rfl ((flt hc152).2.2.2) (by decide) (by decide) k_) ?_
      exact t191
  have t142 : Go p.tables e below (PQ s below (fun v_ h_ L_ => v_ = some (.int (F1_142 x)) ∧ Fr n0 L_ ∧ h_ = h0) 0 0) (s₁.setTop (mkF m 142 #[.val (.int x)] [])) := by
    refine Go.via (B := s₁.setTop (mkF m 146 #[.val (.int x)] [(.int (12289 : Int32)), (.int x)])) (fun t_ k_ => ?_) ?_
    · show Steps p.tables e below (s₁.setTop (mkF m 142 #[.val (.int x)] [])) t_
      refine XS.iloadN X0.here hx rfl (hb hby d1_142) rfl ?_
      show Steps p.tables e below (s₁.setTop (mkF m 143 #[.val (.int x)] [(.int x)])) t_
      refine XS.sipush X0.here hx rfl (hb hby d1_143) ?_
      show Steps p.tables e below (s₁.setTop (mkF m 146 #[.val (.int x)] [(.int (12289 : Int32)), (.int x)])) t_
      exact k_
    by_cases hc146 : x < (12289 : Int32)
    · rw [show F1_142 x = F1_155 x from if_pos hc146]
      refine Go.via (B := s₁.setTop (mkF m 155 #[.val (.int x)] [])) (fun t_ k_ => XS.icmpYes X0.here hx rfl (pc0 := 146) (pc' := 155) rfl (hb hby d1_146) rfl ((tlt hc146).1) (by decide) (by decide) k_) ?_
      exact t155
    · rw [show F1_142 x = F1_149 x from if_neg hc146]
      refine Go.via (B := s₁.setTop (mkF m 149 #[.val (.int x)] [])) (fun t_ k_ => XS.icmpNo X0.here hx rfl (hb hby d1_146) rfl ((flt hc146).1) k_) ?_
      exact t149
  have t135 : Go p.tables e below (PQ s below (fun v_ h_ L_ => v_ = some (.int (F1_135 x)) ∧ Fr n0 L_ ∧ h_ = h0) 0 0) (s₁.setTop (mkF m 135 #[.val (.int x)] [])) := by
    refine Go.via (B := s₁.setTop (mkF m 139 #[.val (.int x)] [(.int (12271 : Int32)), (.int x)])) (fun t_ k_ => ?_) ?_
    · show Steps p.tables e below (s₁.setTop (mkF m 135 #[.val (.int x)] [])) t_
      refine XS.iloadN X0.here hx rfl (hb hby d1_135) rfl ?_
      show Steps p.tables e below (s₁.setTop (mkF m 136 #[.val (.int x)] [(.int x)])) t_
      refine XS.sipush X0.here hx rfl (hb hby d1_136) ?_
      show Steps p.tables e below (s₁.setTop (mkF m 139 #[.val (.int x)] [(.int (12271 : Int32)), (.int x)])) t_
      exact k_
    by_cases hc139 : (12271 : Int32) < x
    · rw [show F1_135 x = F1_142 x from if_pos hc139]
      refine Go.via (B := s₁.setTop (mkF m 142 #[.val (.int x)] [])) (fun t_ k_ => XS.icmpNo X0.here hx rfl (hb hby d1_139) rfl ((tlt hc139).2.2.2) k_) ?_
      exact t142
    · rw [show F1_135 x = F1_191 x from if_neg hc139]
      refine Go.via (B := s₁.setTop (mkF m 191 #[.val (.int x)] [])) (fun t_ k_ => XS.icmpYes X0.here hx rfl (pc0 := 139) (pc' := 191) rfl (hb hby d1_139) rfl ((flt hc139).2.2.2) (by decide) (by decide) k_) ?_
      exact t191
  have t128 : Go p.tables e below (PQ s below (fun v_ h_ L_ => v_ = some (.int (F1_128 x)) ∧ Fr n0 L_ ∧ h_ = h0) 0 0) (s₁.setTop (mkF m 128 #[.val (.int x)] [])) := by
    refine Go.via (B := s₁.setTop (mkF m 132 #[.val (.int x)] [(.int (11264 : Int32)), (.int x)])) (fun t_ k_ => ?_) ?_
    · show Steps p.tables e below (s₁.setTop (mkF m 128 #[.val (.int x)] [])) t_
      refine XS.iloadN X0.here hx rfl (hb hby d1_128) rfl ?_
      show Steps p.tables e below (s₁.setTop (mkF m 129 #[.val (.int x)] [(.int x)])) t_
      refine XS.sipush X0.here hx rfl (hb hby d1_129) ?_
      show Steps p.tables e below (s₁.setTop (mkF m 132 #[.val (.int x)] [(.int (11264 : Int32)), (.int x)])) t_
      exact k_
    by_cases hc132 : x < (11264 : Int32)
    · rw [show F1_128 x = F1_142 x from if_pos hc132]
      refine Go.via (B := s₁.setTop (mkF m 142 #[.val (.int x)] [])) (fun t_ k_ => XS.icmpYes X0.here hx rfl (pc0 := 132) (pc' := 142) rfl (hb hby d1_132) rfl ((tlt hc132).1) (by decide) (by decide) k_) ?_
      exact t142
    · rw [show F1_128 x = F1_135 x from if_neg hc132]
      refine Go.via (B := s₁.setTop (mkF m 135 #[.val (.int x)] [])) (fun t_ k_ => XS.icmpNo X0.here hx rfl (hb hby d1_132) rfl ((flt hc132).1) k_) ?_
      exact t135
  have t121 : Go p.tables e below (PQ s below (fun v_ h_ L_ => v_ = some (.int (F1_121 x)) ∧ Fr n0 L_ ∧ h_ = h0) 0 0) (s₁.setTop (mkF m 121 #[.val (.int x)] [])) := by
    refine Go.via (B := s₁.setTop (mkF m 125 #[.val (.int x)] [(.int (8591 : Int32)), (.int x)])) (fun t_ k_ => ?_) ?_
    · show Steps p.tables e below (s₁.setTop (mkF m 121 #[.val (.int x)] [])) t_
      refine XS.iloadN X0.here hx rfl (hb hby d1_121) rfl ?_
      show Steps p.tables e below (s₁.setTop (mkF m 122 #[.val (.int x)] [(.int x)])) t_
      refine XS.sipush X0.here hx rfl (hb hby d1_122) ?_
      show Steps p.tables e below (s₁.setTop (mkF m 125 #[.val (.int x)] [(.int (8591 : Int32)), (.int x)])) t_
      exact k_
    by_cases hc125 : (8591 : Int32) < x
    · rw [show F1_121 x = F1_128 x from if_pos hc125]
      refine Go.via (B := s₁.setTop (mkF m 128 #[.val (.int x)] [])) (fun t_ k_ => XS.icmpNo X0.here hx rfl (hb hby d1_125) rfl ((tlt hc125).2.2.2) k_) ?_
      exact t128
    · rw [show F1_121 x = F1_191 x from if_neg hc125]
      refine Go.via (B := s₁.setTop (mkF m 191 #[.val (.int x)] [])) (fun t_ k_ => XS.icmpYes X0.here hx rfl (pc0 := 125) (pc' := 191) rfl (hb hby d1_125) rfl ((flt hc125).2.2.2) (by decide) (by decide) k_) ?_
      exact t191
  have t114 : Go p.tables e below (PQ s below (fun v_ h_ L_ => v_ = some (.int (F1_114 x)) ∧ Fr n0 L_ ∧ h_ = h0) 0 0) (s₁.setTop (mkF m 114 #[.val (.int x)] [])) := by
    refine Go.via (B := s₁.setTop (mkF m 118 #[.val (.int x)] [(.int (8304 : Int32)), (.int x)])) (fun t_ k_ => ?_) ?_
    · show Steps p.tables e below (s₁.setTop (mkF m 114 #[.val (.int x)] [])) t_
      refine XS.iloadN X0.here hx rfl (hb hby d1_114) rfl ?_
      show Steps p.tables e below (s₁.setTop (mkF m 115 #[.val (.int x)] [(.int x)])) t_
      refine XS.sipush X0.here hx rfl (hb hby d1_115) ?_
      show Steps p.tables e below (s₁.setTop (mkF m 118 #[.val (.int x)] [(.int (8304 : Int32)), (.int x)])) t_
      exact k_
    by_cases hc118 : x < (8304 : Int32)
    · rw [show F1_114 x = F1_128 x from if_pos hc118]
      refine Go.via (B := s₁.setTop (mkF m 128 #[.val (.int x)] [])) (fun t_ k_ => XS.icmpYes X0.here hx rfl (pc0 := 118) (pc' := 128) rfl (hb hby d1_118) rfl ((tlt hc118).1) (by decide) (by decide) k_) ?_
      exact t128
    · rw [show F1_114 x = F1_121 x from if_neg hc118]
      refine Go.via (B := s₁.setTop (mkF m 121 #[.val (.int x)] [])) (fun t_ k_ => XS.icmpNo X0.here hx rfl (hb hby d1_118) rfl ((flt hc118).1) k_) ?_
      exact t121
  have t107 : Go p.tables e below (PQ s below (fun v_ h_ L_ => v_ = some (.int (F1_107 x)) ∧ Fr n0 L_ ∧ h_ = h0) 0 0) (s₁.setTop (mkF m 107 #[.val (.int x)] [])) := by
    refine Go.via (B := s₁.setTop (mkF m 111 #[.val (.int x)] [(.int (8205 : Int32)), (.int x)])) (fun t_ k_ => ?_) ?_
    · show Steps p.tables e below (s₁.setTop (mkF m 107 #[.val (.int x)] [])) t_
      refine XS.iloadN X0.here hx rfl (hb hby d1_107) rfl ?_
      show Steps p.tables e below (s₁.setTop (mkF m 108 #[.val (.int x)] [(.int x)])) t_
      refine XS.sipush X0.here hx rfl (hb hby d1_108) ?_
      show Steps p.tables e below (s₁.setTop (mkF m 111 #[.val (.int x)] [(.int (8205 : Int32)), (.int x)])) t_
      exact k_
    by_cases hc111 : (8205 : Int32) < x
    · rw [show F1_107 x = F1_114 x from if_pos hc111]
      refine Go.via (B := s₁.setTop (mkF m 114 #[.val (.int x)] [])) (fun t_ k_ => XS.icmpNo X0.here hx rfl (hb hby d1_111) rfl ((tlt hc111).2.2.2) k_) ?_
      exact t114
    · rw [show F1_107 x = F1_191 x from if_neg hc111]
      refine Go.via (B := s₁.setTop (mkF m 191 #[.val (.int x)] [])) (fun t_ k_ => XS.icmpYes X0.here hx rfl (pc0 := 111) (pc' := 191) rfl (hb hby d1_111) rfl ((flt hc111).2.2.2) (by decide) (by decide) k_) ?_
      exact t191
  have t100 : Go p.tables e below (PQ s below (fun v_ h_ L_ => v_ = some (.int (F1_100 x)) ∧ Fr n0 L_ ∧ h_ = h0) 0 0) (s₁.setTop (mkF m 100 #[.val (.int x)] [])) := by
    refine Go.via (B := s₁.setTop (mkF m 104 #[.val (.int x)] [(.int (8204 : Int32)), (.int x)])) (fun t_ k_ => ?_) ?_
    · show Steps p.tables e below (s₁.setTop (mkF m 100 #[.val (.int x)] [])) t_
      refine XS.iloadN X0.here hx rfl (hb hby d1_100) rfl ?_
      show Steps p.tables e below (s₁.setTop (mkF m 101 #[.val (.int x)] [(.int x)])) t_
      refine XS.sipush X0.here hx rfl (hb hby d1_101) ?_
      show Steps p.tables e below (s₁.setTop (mkF m 104 #[.val (.int x)] [(.int (8204 : Int32)), (.int x)])) t_
      exact k_
    by_cases hc104 : x < (8204 : Int32)
    · rw [show F1_100 x = F1_114 x from if_pos hc104]
      refine Go.via (B := s₁.setTop (mkF m 114 #[.val (.int x)] [])) (fun t_ k_ => XS.icmpYes X0.here hx rfl (pc0 := 104) (pc' := 114) rfl (hb hby d1_104) rfl ((tlt hc104).1) (by decide) (by decide) k_) ?_
      exact t114
    · rw [show F1_100 x = F1_107 x from if_neg hc104]
      refine Go.via (B := s₁.setTop (mkF m 107 #[.val (.int x)] [])) (fun t_ k_ => XS.icmpNo X0.here hx rfl (hb hby d1_104) rfl ((flt hc104).1) k_) ?_
      exact t107
  have t93 : Go p.tables e below (PQ s below (fun v_ h_ L_ => v_ = some (.int (F1_93 x)) ∧ Fr n0 L_ ∧ h_ = h0) 0 0) (s₁.setTop (mkF m 93 #[.val (.int x)] [])) := by
    refine Go.via (B := s₁.setTop (mkF m 97 #[.val (.int x)] [(.int (8191 : Int32)), (.int x)])) (fun t_ k_ => ?_) ?_
    · show Steps p.tables e below (s₁.setTop (mkF m 93 #[.val (.int x)] [])) t_
      refine XS.iloadN X0.here hx rfl (hb hby d1_93) rfl ?_
      show Steps p.tables e below (s₁.setTop (mkF m 94 #[.val (.int x)] [(.int x)])) t_
      refine XS.sipush X0.here hx rfl (hb hby d1_94) ?_
      show Steps p.tables e below (s₁.setTop (mkF m 97 #[.val (.int x)] [(.int (8191 : Int32)), (.int x)])) t_
      exact k_
    by_cases hc97 : (8191 : Int32) < x
    · rw [show F1_93 x = F1_100 x from if_pos hc97]
      refine Go.via (B := s₁.setTop (mkF m 100 #[.val (.int x)] [])) (fun t_ k_ => XS.icmpNo X0.here hx rfl (hb hby d1_97) rfl ((tlt hc97).2.2.2) k_) ?_
      exact t100
    · rw [show F1_93 x = F1_191 x from if_neg hc97]
      refine Go.via (B := s₁.setTop (mkF m 191 #[.val (.int x)] [])) (fun t_ k_ => XS.icmpYes X0.here hx rfl (pc0 := 97) (pc' := 191) rfl (hb hby d1_97) rfl ((flt hc97).2.2.2) (by decide) (by decide) k_) ?_
      exact t191
  have t86 : Go p.tables e below (PQ s below (fun v_ h_ L_ => v_ = some (.int (F1_86 x)) ∧ Fr n0 L_ ∧ h_ = h0) 0 0) (s₁.setTop (mkF m 86 #[.val (.int x)] [])) := by
    refine Go.via (B := s₁.setTop (mkF m 90 #[.val (.int x)] [(.int (895 : Int32)), (.int x)])) (fun t_ k_ => ?_) ?_
    · show Steps p.tables e below (s₁.setTop (mkF m 86 #[.val (.int x)] [])) t_
      refine XS.iloadN X0.here hx rfl (hb hby d1_86) rfl ?_
      show Steps p.tables e below (s₁.setTop (mkF m 87 #[.val (.int x)] [(.int x)])) t_
      refine XS.sipush X0.here hx rfl (hb hby d1_87) ?_
      show Steps p.tables e below (s₁.setTop (mkF m 90 #[.val (.int x)] [(.int (895 : Int32)), (.int x)])) t_
      exact k_
    by_cases hc90 : x < (895 : Int32)
    · rw [show F1_86 x = F1_100 x from if_pos hc90]
      refine Go.via (B := s₁.setTop (mkF m 100 #[.val (.int x)] [])) (fun t_ k_ => XS.icmpYes X0.here hx rfl (pc0 := 90) (pc' := 100) rfl (hb hby d1_90) rfl ((tlt hc90).1) (by decide) (by decide) k_) ?_
      exact t100
    · rw [show F1_86 x = F1_93 x from if_neg hc90]
      refine Go.via (B := s₁.setTop (mkF m 93 #[.val (.int x)] [])) (fun t_ k_ => XS.icmpNo X0.here hx rfl (hb hby d1_90) rfl ((flt hc90).1) k_) ?_
      exact t93
  have t79 : Go p.tables e below (PQ s below (fun v_ h_ L_ => v_ = some (.int (F1_79 x)) ∧ Fr n0 L_ ∧ h_ = h0) 0 0) (s₁.setTop (mkF m 79 #[.val (.int x)] [])) := by
    refine Go.via (B := s₁.setTop (mkF m 83 #[.val (.int x)] [(.int (893 : Int32)), (.int x)])) (fun t_ k_ => ?_) ?_
    · show Steps p.tables e below (s₁.setTop (mkF m 79 #[.val (.int x)] [])) t_
      refine XS.iloadN X0.here hx rfl (hb hby d1_79) rfl ?_
      show Steps p.tables e below (s₁.setTop (mkF m 80 #[.val (.int x)] [(.int x)])) t_
      refine XS.sipush X0.here hx rfl (hb hby d1_80) ?_
      show Steps p.tables e below (s₁.setTop (mkF m 83 #[.val (.int x)] [(.int (893 : Int32)), (.int x)])) t_
      exact k_
    by_cases hc83 : (893 : Int32) < x
    · rw [show F1_79 x = F1_86 x from if_pos hc83]
      refine Go.via (B := s₁.setTop (mkF m 86 #[.val (.int x)] [])) (fun t_ k_ => XS.icmpNo X0.here hx rfl (hb hby d1_83) rfl ((tlt hc83).2.2.2) k_) ?_
      exact t86
    · rw [show F1_79 x = F1_191 x from if_neg hc83]
      refine Go.via (B := s₁.setTop (mkF m 191 #[.val (.int x)] [])) (fun t_ k_ => XS.icmpYes X0.here hx rfl (pc0 := 83) (pc' := 191) rfl (hb hby d1_83) rfl ((flt hc83).2.2.2) (by decide) (by decide) k_) ?_
      exact t191
  have t72 : Go p.tables e below (PQ s below (fun v_ h_ L_ => v_ = some (.int (F1_72 x)) ∧ Fr n0 L_ ∧ h_ = h0) 0 0) (s₁.setTop (mkF m 72 #[.val (.int x)] [])) := by
    refine Go.via (B := s₁.setTop (mkF m 76 #[.val (.int x)] [(.int (880 : Int32)), (.int x)])) (fun t_ k_ => ?_) ?_
    · show Steps p.tables e below (s₁.setTop (mkF m 72 #[.val (.int x)] [])) t_
      refine XS.iloadN X0.here hx rfl (hb hby d1_72) rfl ?_
      show Steps p.tables e below (s₁.setTop (mkF m 73 #[.val (.int x)] [(.int x)])) t_
      refine XS.sipush X0.here hx rfl (hb hby d1_73) ?_
      show Steps p.tables e below (s₁.setTop (mkF m 76 #[.val (.int x)] [(.int (880 : Int32)), (.int x)])) t_
      exact k_
    by_cases hc76 : x < (880 : Int32)
    · rw [show F1_72 x = F1_86 x from if_pos hc76]
      refine Go.via (B := s₁.setTop (mkF m 86 #[.val (.int x)] [])) (fun t_ k_ => XS.icmpYes X0.here hx rfl (pc0 := 76) (pc' := 86) rfl (hb hby d1_76) rfl ((tlt hc76).1) (by decide) (by decide) k_) ?_
      exact t86
    · rw [show F1_72 x = F1_79 x from if_neg hc76]
      refine Go.via (B := s₁.setTop (mkF m 79 #[.val (.int x)] [])) (fun t_ k_ => XS.icmpNo X0.here hx rfl (hb hby d1_76) rfl ((flt hc76).1) k_) ?_
      exact t79
  have t65 : Go p.tables e below (PQ s below (fun v_ h_ L_ => v_ = some (.int (F1_65 x)) ∧ Fr n0 L_ ∧ h_ = h0) 0 0) (s₁.setTop (mkF m 65 #[.val (.int x)] [])) := by
    refine Go.via (B := s₁.setTop (mkF m 69 #[.val (.int x)] [(.int (767 : Int32)), (.int x)])) (fun t_ k_ => ?_) ?_
    · show Steps p.tables e below (s₁.setTop (mkF m 65 #[.val (.int x)] [])) t_
      refine XS.iloadN X0.here hx rfl (hb hby d1_65) rfl ?_
      show Steps p.tables e below (s₁.setTop (mkF m 66 #[.val (.int x)] [(.int x)])) t_
      refine XS.sipush X0.here hx rfl (hb hby d1_66) ?_
      show Steps p.tables e below (s₁.setTop (mkF m 69 #[.val (.int x)] [(.int (767 : Int32)), (.int x)])) t_
      exact k_
    by_cases hc69 : (767 : Int32) < x
    · rw [show F1_65 x = F1_72 x from if_pos hc69]
      refine Go.via (B := s₁.setTop (mkF m 72 #[.val (.int x)] [])) (fun t_ k_ => XS.icmpNo X0.here hx rfl (hb hby d1_69) rfl ((tlt hc69).2.2.2) k_) ?_
      exact t72
    · rw [show F1_65 x = F1_191 x from if_neg hc69]
      refine Go.via (B := s₁.setTop (mkF m 191 #[.val (.int x)] [])) (fun t_ k_ => XS.icmpYes X0.here hx rfl (pc0 := 69) (pc' := 191) rfl (hb hby d1_69) rfl ((flt hc69).2.2.2) (by decide) (by decide) k_) ?_
      exact t191
  have t58 : Go p.tables e below (PQ s below (fun v_ h_ L_ => v_ = some (.int (F1_58 x)) ∧ Fr n0 L_ ∧ h_ = h0) 0 0) (s₁.setTop (mkF m 58 #[.val (.int x)] [])) := by
    refine Go.via (B := s₁.setTop (mkF m 62 #[.val (.int x)] [(.int (248 : Int32)), (.int x)])) (fun t_ k_ => ?_) ?_
    · show Steps p.tables e below (s₁.setTop (mkF m 58 #[.val (.int x)] [])) t_
      refine XS.iloadN X0.here hx rfl (hb hby d1_58) rfl ?_
      show Steps p.tables e below (s₁.setTop (mkF m 59 #[.val (.int x)] [(.int x)])) t_
      refine XS.sipush X0.here hx rfl (hb hby d1_59) ?_
      show Steps p.tables e below (s₁.setTop (mkF m 62 #[.val (.int x)] [(.int (248 : Int32)), (.int x)])) t_
      exact k_
    by_cases hc62 : x < (248 : Int32)
    · rw [show F1_58 x = F1_72 x from if_pos hc62]
      refine Go.via (B := s₁.setTop (mkF m 72 #[.val (.int x)] [])) (fun t_ k_ => XS.icmpYes X0.here hx rfl (pc0 := 62) (pc' := 72) rfl (hb hby d1_62) rfl ((tlt hc62).1) (by decide) (by decide) k_) ?_
      exact t72
    · rw [show F1_58 x = F1_65 x from if_neg hc62]
      refine Go.via (B := s₁.setTop (mkF m 65 #[.val (.int x)] [])) (fun t_ k_ => XS.icmpNo X0.here hx rfl (hb hby d1_62) rfl ((flt hc62).1) k_) ?_
      exact t65
  have t51 : Go p.tables e below (PQ s below (fun v_ h_ L_ => v_ = some (.int (F1_51 x)) ∧ Fr n0 L_ ∧ h_ = h0) 0 0) (s₁.setTop (mkF m 51 #[.val (.int x)] [])) := by
    refine Go.via (B := s₁.setTop (mkF m 55 #[.val (.int x)] [(.int (246 : Int32)), (.int x)])) (fun t_ k_ => ?_) ?_
    · show Steps p.tables e below (s₁.setTop (mkF m 51 #[.val (.int x)] [])) t_
      refine XS.iloadN X0.here hx rfl (hb hby d1_51) rfl ?_
      show Steps p.tables e below (s₁.setTop (mkF m 52 #[.val (.int x)] [(.int x)])) t_
      refine XS.sipush X0.here hx rfl (hb hby d1_52) ?_
      show Steps p.tables e below (s₁.setTop (mkF m 55 #[.val (.int x)] [(.int (246 : Int32)), (.int x)])) t_
      exact k_
    by_cases hc55 : (246 : Int32) < x
    · rw [show F1_51 x = F1_58 x from if_pos hc55]
      refine Go.via (B := s₁.setTop (mkF m 58 #[.val (.int x)] [])) (fun t_ k_ => XS.icmpNo X0.here hx rfl (hb hby d1_55) rfl ((tlt hc55).2.2.2) k_) ?_
      exact t58
    · rw [show F1_51 x = F1_191 x from if_neg hc55]
      refine Go.via (B := s₁.setTop (mkF m 191 #[.val (.int x)] [])) (fun t_ k_ => XS.icmpYes X0.here hx rfl (pc0 := 55) (pc' := 191) rfl (hb hby d1_55) rfl ((flt hc55).2.2.2) (by decide) (by decide) k_) ?_
      exact t191
  have t44 : Go p.tables e below (PQ s below (fun v_ h_ L_ => v_ = some (.int (F1_44 x)) ∧ Fr n0 L_ ∧ h_ = h0) 0 0) (s₁.setTop (mkF m 44 #[.val (.int x)] [])) := by
    refine Go.via (B := s₁.setTop (mkF m 48 #[.val (.int x)] [(.int (216 : Int32)), (.int x)])) (fun t_ k_ => ?_) ?_
    · show Steps p.tables e below (s₁.setTop (mkF m 44 #[.val (.int x)] [])) t_
      refine XS.iloadN X0.here hx rfl (hb hby d1_44) rfl ?_
      show Steps p.tables e below (s₁.setTop (mkF m 45 #[.val (.int x)] [(.int x)])) t_
      refine XS.sipush X0.here hx rfl (hb hby d1_45) ?_
      show Steps p.tables e below (s₁.setTop (mkF m 48 #[.val (.int x)] [(.int (216 : Int32)), (.int x)])) t_
      exact k_
    by_cases hc48 : x < (216 : Int32)
    · rw [show F1_44 x = F1_58 x from if_pos hc48]
      refine Go.via (B := s₁.setTop (mkF m 58 #[.val (.int x)] [])) (fun t_ k_ => XS.icmpYes X0.here hx rfl (pc0 := 48) (pc' := 58) rfl (hb hby d1_48) rfl ((tlt hc48).1) (by decide) (by decide) k_) ?_
      exact t58
    · rw [show F1_44 x = F1_51 x from if_neg hc48]
      refine Go.via (B := s₁.setTop (mkF m 51 #[.val (.int x)] [])) (fun t_ k_ => XS.icmpNo X0.here hx rfl (hb hby d1_48) rfl ((flt hc48).1) k_) ?_
      exact t51
  have t37 : Go p.tables e below (PQ s below (fun v_ h_ L_ => v_ = some (.int (F1_37 x)) ∧ Fr n0 L_ ∧ h_ = h0) 0 0) (s₁.setTop (mkF m 37 #[.val (.int x)] [])) := by
    refine Go.via (B := s₁.setTop (mkF m 41 #[.val (.int x)] [(.int (214 : Int32)), (.int x)])) (fun t_ k_ => ?_) ?_
    · show Steps p.tables e below (s₁.setTop (mkF m 37 #[.val (.int x)] [])) t_
      refine XS.iloadN X0.here hx rfl (hb hby d1_37) rfl ?_
      show Steps p.tables e below (s₁.setTop (mkF m 38 #[.val (.int x)] [(.int x)])) t_
      refine XS.sipush X0.here hx rfl (hb hby d1_38) ?_
      show Steps p.tables e below (s₁.setTop (mkF m 41 #[.val (.int x)] [(.int (214 : Int32)), (.int x)])) t_
      exact k_
    by_cases hc41 : (214 : Int32) < x
    · rw [show F1_37 x = F1_44 x from if_pos hc41]
      refine Go.via (B := s₁.setTop (mkF m 44 #[.val (.int x)] [])) (fun t_ k_ => XS.icmpNo X0.here hx rfl (hb hby d1_41) rfl ((tlt hc41).2.2.2) k_) ?_
      exact t44
    · rw [show F1_37 x = F1_191 x from if_neg hc41]
      refine Go.via (B := s₁.setTop (mkF m 191 #[.val (.int x)] [])) (fun t_ k_ => XS.icmpYes X0.here hx rfl (pc0 := 41) (pc' := 191) rfl (hb hby d1_41) rfl ((flt hc41).2.2.2) (by decide) (by decide) k_) ?_
      exact t191
  have t30 : Go p.tables e below (PQ s below (fun v_ h_ L_ => v_ = some (.int (F1_30 x)) ∧ Fr n0 L_ ∧ h_ = h0) 0 0) (s₁.setTop (mkF m 30 #[.val (.int x)] [])) := by
    refine Go.via (B := s₁.setTop (mkF m 34 #[.val (.int x)] [(.int (192 : Int32)), (.int x)])) (fun t_ k_ => ?_) ?_
    · show Steps p.tables e below (s₁.setTop (mkF m 30 #[.val (.int x)] [])) t_
      refine XS.iloadN X0.here hx rfl (hb hby d1_30) rfl ?_
      show Steps p.tables e below (s₁.setTop (mkF m 31 #[.val (.int x)] [(.int x)])) t_
      refine XS.sipush X0.here hx rfl (hb hby d1_31) ?_
      show Steps p.tables e below (s₁.setTop (mkF m 34 #[.val (.int x)] [(.int (192 : Int32)), (.int x)])) t_
      exact k_
    by_cases hc34 : x < (192 : Int32)
    · rw [show F1_30 x = F1_44 x from if_pos hc34]
      refine Go.via (B := s₁.setTop (mkF m 44 #[.val (.int x)] [])) (fun t_ k_ => XS.icmpYes X0.here hx rfl (pc0 := 34) (pc' := 44) rfl (hb hby d1_34) rfl ((tlt hc34).1) (by decide) (by decide) k_) ?_
      exact t44
    · rw [show F1_30 x = F1_37 x from if_neg hc34]
      refine Go.via (B := s₁.setTop (mkF m 37 #[.val (.int x)] [])) (fun t_ k_ => XS.icmpNo X0.here hx rfl (hb hby d1_34) rfl ((flt hc34).1) k_) ?_
      exact t37
  have t24 : Go p.tables e below (PQ s below (fun v_ h_ L_ => v_ = some (.int (F1_24 x)) ∧ Fr n0 L_ ∧ h_ = h0) 0 0) (s₁.setTop (mkF m 24 #[.val (.int x)] [])) := by
    refine Go.via (B := s₁.setTop (mkF m 27 #[.val (.int x)] [(.int (95 : Int32)), (.int x)])) (fun t_ k_ => ?_) ?_
    · show Steps p.tables e below (s₁.setTop (mkF m 24 #[.val (.int x)] [])) t_
      refine XS.iloadN X0.here hx rfl (hb hby d1_24) rfl ?_
      show Steps p.tables e below (s₁.setTop (mkF m 25 #[.val (.int x)] [(.int x)])) t_
      refine XS.bipush X0.here hx rfl (hb hby d1_25) ?_
      show Steps p.tables e below (s₁.setTop (mkF m 27 #[.val (.int x)] [(.int (95 : Int32)), (.int x)])) t_
      exact k_
    by_cases hc27 : x = (95 : Int32)
    · rw [show F1_24 x = F1_191 x from if_pos hc27]
      refine Go.via (B := s₁.setTop (mkF m 191 #[.val (.int x)] [])) (fun t_ k_ => XS.icmpYes X0.here hx rfl (pc0 := 27) (pc' := 191) rfl (hb hby d1_27) rfl ((teq hc27).1) (by decide) (by decide) k_) ?_
      exact t191
    · rw [show F1_24 x = F1_30 x from if_neg hc27]
      refine Go.via (B := s₁.setTop (mkF m 30 #[.val (.int x)] [])) (fun t_ k_ => XS.icmpNo X0.here hx rfl (hb hby d1_27) rfl ((feq hc27).1) k_) ?_
      exact t30
  have t18 : Go p.tables e below (PQ s below (fun v_ h_ L_ => v_ = some (.int (F1_18 x)) ∧ Fr n0 L_ ∧ h_ = h0) 0 0) (s₁.setTop (mkF m 18 #[.val (.int x)] [])) := by
    refine Go.via (B := s₁.setTop (mkF m 21 #[.val (.int x)] [(.int (90 : Int32)), (.int x)])) (fun t_ k_ => ?_) ?_
    · show Steps p.tables e below (s₁.setTop (mkF m 18 #[.val (.int x)] [])) t_
      refine XS.iloadN X0.here hx rfl (hb hby d1_18) rfl ?_
      show Steps p.tables e below (s₁.setTop (mkF m 19 #[.val (.int x)] [(.int x)])) t_
      refine XS.bipush X0.here hx rfl (hb hby d1_19) ?_
      show Steps p.tables e below (s₁.setTop (mkF m 21 #[.val (.int x)] [(.int (90 : Int32)), (.int x)])) t_
      exact k_
    by_cases hc21 : (90 : Int32) < x
    · rw [show F1_18 x = F1_24 x from if_pos hc21]
      refine Go.via (B := s₁.setTop (mkF m 24 #[.val (.int x)] [])) (fun t_ k_ => XS.icmpNo X0.here hx rfl (hb hby d1_21) rfl ((tlt hc21).2.2.2) k_) ?_
      exact t24
    · rw [show F1_18 x = F1_191 x from if_neg hc21]
      refine Go.via (B := s₁.setTop (mkF m 191 #[.val (.int x)] [])) (fun t_ k_ => XS.icmpYes X0.here hx rfl (pc0 := 21) (pc' := 191) rfl (hb hby d1_21) rfl ((flt hc21).2.2.2) (by decide) (by decide) k_) ?_
      exact t191
  have t12 : Go p.tables e below (PQ s below (fun v_ h_ L_ => v_ = some (.int (F1_12 x)) ∧ Fr n0 L_ ∧ h_ = h0) 0 0) (s₁.setTop (mkF m 12 #[.val (.int x)] [])) := by
    refine Go.via (B := s₁.setTop (mkF m 15 #[.val (.int x)] [(.int (65 : Int32)), (.int x)])) (fun t_ k_ => ?_) ?_
    · show Steps p.tables e below (s₁.setTop (mkF m 12 #[.val (.int x)] [])) t_
      refine XS.iloadN X0.here hx rfl (hb hby d1_12) rfl ?_
      show Steps p.tables e below (s₁.setTop (mkF m 13 #[.val (.int x)] [(.int x)])) t_
      refine XS.bipush X0.here hx rfl (hb hby d1_13) ?_
      show Steps p.tables e below (s₁.setTop (mkF m 15 #[.val (.int x)] [(.int (65 : Int32)), (.int x)])) t_
      exact k_
    by_cases hc15 : x < (65 : Int32)
    · rw [show F1_12 x = F1_24 x from if_pos hc15]
      refine Go.via (B := s₁.setTop (mkF m 24 #[.val (.int x)] [])) (fun t_ k_ => XS.icmpYes X0.here hx rfl (pc0 := 15) (pc' := 24) rfl (hb hby d1_15) rfl ((tlt hc15).1) (by decide) (by decide) k_) ?_
      exact t24
    · rw [show F1_12 x = F1_18 x from if_neg hc15]
      refine Go.via (B := s₁.setTop (mkF m 18 #[.val (.int x)] [])) (fun t_ k_ => XS.icmpNo X0.here hx rfl (hb hby d1_15) rfl ((flt hc15).1) k_) ?_
      exact t18
  have t6 : Go p.tables e below (PQ s below (fun v_ h_ L_ => v_ = some (.int (F1_6 x)) ∧ Fr n0 L_ ∧ h_ = h0) 0 0) (s₁.setTop (mkF m 6 #[.val (.int x)] [])) := by
    refine Go.via (B := s₁.setTop (mkF m 9 #[.val (.int x)] [(.int (122 : Int32)), (.int x)])) (fun t_ k_ => ?_) ?_
    · show Steps p.tables e below (s₁.setTop (mkF m 6 #[.val (.int x)] [])) t_
      refine XS.iloadN X0.here hx rfl (hb hby d1_6) rfl ?_
      show Steps p.tables e below (s₁.setTop (mkF m 7 #[.val (.int x)] [(.int x)])) t_
      refine XS.bipush X0.here hx rfl (hb hby d1_7) ?_
      show Steps p.tables e below (s₁.setTop (mkF m 9 #[.val (.int x)] [(.int (122 : Int32)), (.int x)])) t_
      exact k_
    by_cases hc9 : (122 : Int32) < x
    · rw [show F1_6 x = F1_12 x from if_pos hc9]
      refine Go.via (B := s₁.setTop (mkF m 12 #[.val (.int x)] [])) (fun t_ k_ => XS.icmpNo X0.here hx rfl (hb hby d1_9) rfl ((tlt hc9).2.2.2) k_) ?_
      exact t12
    · rw [show F1_6 x = F1_191 x from if_neg hc9]
      refine Go.via (B := s₁.setTop (mkF m 191 #[.val (.int x)] [])) (fun t_ k_ => XS.icmpYes X0.here hx rfl (pc0 := 9) (pc' := 191) rfl (hb hby d1_9) rfl ((flt hc9).2.2.2) (by decide) (by decide) k_) ?_
      exact t191
  have t0 : Go p.tables e below (PQ s below (fun v_ h_ L_ => v_ = some (.int (F1_0 x)) ∧ Fr n0 L_ ∧ h_ = h0) 0 0) (s₁.setTop (mkF m 0 #[.val (.int x)] [])) := by
    refine Go.via (B := s₁.setTop (mkF m 3 #[.val (.int x)] [(.int (97 : Int32)), (.int x)])) (fun t_ k_ => ?_) ?_
    · show Steps p.tables e below (s₁.setTop (mkF m 0 #[.val (.int x)] [])) t_
      refine XS.iloadN X0.here hx rfl (hb hby d1_0) rfl ?_
      show Steps p.tables e below (s₁.setTop (mkF m 1 #[.val (.int x)] [(.int x)])) t_
      refine XS.bipush X0.here hx rfl (hb hby d1_1) ?_
      show Steps p.tables e below (s₁.setTop (mkF m 3 #[.val (.int x)] [(.int (97 : Int32)), (.int x)])) t_
      exact k_
    by_cases hc3 : x < (97 : Int32)
    · rw [show F1_0 x = F1_12 x from if_pos hc3]
      refine Go.via (B := s₁.setTop (mkF m 12 #[.val (.int x)] [])) (fun t_ k_ => XS.icmpYes X0.here hx rfl (pc0 := 3) (pc' := 12) rfl (hb hby d1_3) rfl ((tlt hc3).1) (by decide) (by decide) k_) ?_
      exact t12
    · rw [show F1_0 x = F1_6 x from if_neg hc3]
      refine Go.via (B := s₁.setTop (mkF m 6 #[.val (.int x)] [])) (fun t_ k_ => XS.icmpNo X0.here hx rfl (hb hby d1_3) rfl ((flt hc3).1) k_) ?_
      exact t6
  refine Go.via (B := s₁.setTop (mkF m 0 #[.val (.int x)] [])) (fun t_ k_ => castTop (ef_1 m x) k_) ?_
  exact t0
theorem d2_0 : decode method_2_code 0 = .ok (.iload_n 0, 1) := by decide +kernel
theorem d2_1 : decode method_2_code 1 = .ok (.bipush 65, 2) := by decide +kernel
theorem d2_3 : decode method_2_code 3 = .ok (.if_icmp .ge 5, 3) := by decide +kernel
theorem d2_6 : decode method_2_code 6 = .ok (.iconst 1, 1) := by decide +kernel
theorem d2_7 : decode method_2_code 7 = .ok (.ireturn, 1) := by decide +kernel
theorem d2_8 : decode method_2_code 8 = .ok (.iload_n 0, 1) := by decide +kernel
theorem d2_9 : decode method_2_code 9 = .ok (.bipush 91, 2) := by decide +kernel
theorem d2_11 : decode method_2_code 11 = .ok (.if_icmp .lt 11, 3) := by decide +kernel
theorem d2_14 : decode method_2_code 14 = .ok (.iload_n 0, 1) := by decide +kernel
theorem d2_15 : decode method_2_code 15 = .ok (.bipush 94, 2) := by decide +kernel
theorem d2_17 : decode method_2_code 17 = .ok (.if_icmp .gt 5, 3) := by decide +kernel
theorem d2_20 : decode method_2_code 20 = .ok (.iconst 1, 1) := by decide +kernel
theorem d2_21 : decode method_2_code 21 = .ok (.ireturn, 1) := by decide +kernel
theorem d2_22 : decode method_2_code 22 = .ok (.iload_n 0, 1) := by decide +kernel
theorem d2_23 : decode method_2_code 23 = .ok (.bipush 96, 2) := by decide +kernel
theorem d2_25 : decode method_2_code 25 = .ok (.if_icmp .ne 5, 3) := by decide +kernel
theorem d2_28 : decode method_2_code 28 = .ok (.iconst 1, 1) := by decide +kernel
theorem d2_29 : decode method_2_code 29 = .ok (.ireturn, 1) := by decide +kernel
theorem d2_30 : decode method_2_code 30 = .ok (.iload_n 0, 1) := by decide +kernel
theorem d2_31 : decode method_2_code 31 = .ok (.bipush 123, 2) := by decide +kernel
theorem d2_33 : decode method_2_code 33 = .ok (.if_icmp .lt 12, 3) := by decide +kernel
theorem d2_36 : decode method_2_code 36 = .ok (.iload_n 0, 1) := by decide +kernel
theorem d2_37 : decode method_2_code 37 = .ok (.sipush 191, 3) := by decide +kernel
theorem d2_40 : decode method_2_code 40 = .ok (.if_icmp .gt 5, 3) := by decide +kernel
theorem d2_43 : decode method_2_code 43 = .ok (.iconst 1, 1) := by decide +kernel
theorem d2_44 : decode method_2_code 44 = .ok (.ireturn, 1) := by decide +kernel
theorem d2_45 : decode method_2_code 45 = .ok (.iload_n 0, 1) := by decide +kernel
theorem d2_46 : decode method_2_code 46 = .ok (.sipush 215, 3) := by decide +kernel
theorem d2_49 : decode method_2_code 49 = .ok (.if_icmp .eq 10, 3) := by decide +kernel
theorem d2_52 : decode method_2_code 52 = .ok (.iload_n 0, 1) := by decide +kernel
theorem d2_53 : decode method_2_code 53 = .ok (.sipush 247, 3) := by decide +kernel
theorem d2_56 : decode method_2_code 56 = .ok (.if_icmp .ne 5, 3) := by decide +kernel
theorem d2_59 : decode method_2_code 59 = .ok (.iconst 1, 1) := by decide +kernel
theorem d2_60 : decode method_2_code 60 = .ok (.ireturn, 1) := by decide +kernel
theorem d2_61 : decode method_2_code 61 = .ok (.iload_n 0, 1) := by decide +kernel
theorem d2_62 : decode method_2_code 62 = .ok (.sipush 768, 3) := by decide +kernel
theorem d2_65 : decode method_2_code 65 = .ok (.if_icmp .lt 12, 3) := by decide +kernel
theorem d2_68 : decode method_2_code 68 = .ok (.iload_n 0, 1) := by decide +kernel
theorem d2_69 : decode method_2_code 69 = .ok (.sipush 879, 3) := by decide +kernel
theorem d2_72 : decode method_2_code 72 = .ok (.if_icmp .gt 5, 3) := by decide +kernel
theorem d2_75 : decode method_2_code 75 = .ok (.iconst 1, 1) := by decide +kernel
theorem d2_76 : decode method_2_code 76 = .ok (.ireturn, 1) := by decide +kernel
theorem d2_77 : decode method_2_code 77 = .ok (.iload_n 0, 1) := by decide +kernel
theorem d2_78 : decode method_2_code 78 = .ok (.sipush 894, 3) := by decide +kernel
theorem d2_81 : decode method_2_code 81 = .ok (.if_icmp .ne 5, 3) := by decide +kernel
theorem d2_84 : decode method_2_code 84 = .ok (.iconst 1, 1) := by decide +kernel
theorem d2_85 : decode method_2_code 85 = .ok (.ireturn, 1) := by decide +kernel
theorem d2_86 : decode method_2_code 86 = .ok (.iload_n 0, 1) := by decide +kernel
theorem d2_87 : decode method_2_code 87 = .ok (.sipush 8192, 3) := by decide +kernel
theorem d2_90 : decode method_2_code 90 = .ok (.if_icmp .lt 12, 3) := by decide +kernel
theorem d2_93 : decode method_2_code 93 = .ok (.iload_n 0, 1) := by decide +kernel
theorem d2_94 : decode method_2_code 94 = .ok (.sipush 8203, 3) := by decide +kernel
theorem d2_97 : decode method_2_code 97 = .ok (.if_icmp .gt 5, 3) := by decide +kernel
theorem d2_100 : decode method_2_code 100 = .ok (.iconst 1, 1) := by decide +kernel
theorem d2_101 : decode method_2_code 101 = .ok (.ireturn, 1) := by decide +kernel
theorem d2_102 : decode method_2_code 102 = .ok (.iload_n 0, 1) := by decide +kernel
theorem d2_103 : decode method_2_code 103 = .ok (.sipush 8206, 3) := by decide +kernel
theorem d2_106 : decode method_2_code 106 = .ok (.if_icmp .lt 12, 3) := by decide +kernel
theorem d2_109 : decode method_2_code 109 = .ok (.iload_n 0, 1) := by decide +kernel
theorem d2_110 : decode method_2_code 110 = .ok (.sipush 8303, 3) := by decide +kernel
theorem d2_113 : decode method_2_code 113 = .ok (.if_icmp .gt 5, 3) := by decide +kernel
theorem d2_116 : decode method_2_code 116 = .ok (.iconst 1, 1) := by decide +kernel
theorem d2_117 : decode method_2_code 117 = .ok (.ireturn, 1) := by decide +kernel
theorem d2_118 : decode method_2_code 118 = .ok (.iload_n 0, 1) := by decide +kernel
theorem d2_119 : decode method_2_code 119 = .ok (.sipush 8592, 3) := by decide +kernel
theorem d2_122 : decode method_2_code 122 = .ok (.if_icmp .lt 12, 3) := by decide +kernel
theorem d2_125 : decode method_2_code 125 = .ok (.iload_n 0, 1) := by decide +kernel
theorem d2_126 : decode method_2_code 126 = .ok (.sipush 11263, 3) := by decide +kernel
theorem d2_129 : decode method_2_code 129 = .ok (.if_icmp .gt 5, 3) := by decide +kernel
theorem d2_132 : decode method_2_code 132 = .ok (.iconst 1, 1) := by decide +kernel
theorem d2_133 : decode method_2_code 133 = .ok (.ireturn, 1) := by decide +kernel
theorem d2_134 : decode method_2_code 134 = .ok (.iload_n 0, 1) := by decide +kernel
theorem d2_135 : decode method_2_code 135 = .ok (.sipush 12272, 3) := by decide +kernel
theorem d2_138 : decode method_2_code 138 = .ok (.if_icmp .lt 12, 3) := by decide +kernel
theorem d2_141 : decode method_2_code 141 = .ok (.iload_n 0, 1) := by decide +kernel
theorem d2_142 : decode method_2_code 142 = .ok (.sipush 12288, 3) := by decide +kernel
theorem d2_145 : decode method_2_code 145 = .ok (.if_icmp .gt 5, 3) := by decide +kernel
theorem d2_148 : decode method_2_code 148 = .ok (.iconst 1, 1) := by decide +kernel
theorem d2_149 : decode method_2_code 149 = .ok (.ireturn, 1) := by decide +kernel
theorem d2_150 : decode method_2_code 150 = .ok (.iload_n 0, 1) := by decide +kernel
theorem d2_151 : decode method_2_code 151 = .ok (.ldc 7, 2) := by decide +kernel
theorem d2_153 : decode method_2_code 153 = .ok (.if_icmp .lt 11, 3) := by decide +kernel
theorem d2_156 : decode method_2_code 156 = .ok (.iload_n 0, 1) := by decide +kernel
theorem d2_157 : decode method_2_code 157 = .ok (.ldc 8, 2) := by decide +kernel
theorem d2_159 : decode method_2_code 159 = .ok (.if_icmp .gt 5, 3) := by decide +kernel
theorem d2_162 : decode method_2_code 162 = .ok (.iconst 1, 1) := by decide +kernel
theorem d2_163 : decode method_2_code 163 = .ok (.ireturn, 1) := by decide +kernel
theorem d2_164 : decode method_2_code 164 = .ok (.iload_n 0, 1) := by decide +kernel
theorem d2_165 : decode method_2_code 165 = .ok (.ldc 9, 2) := by decide +kernel
theorem d2_167 : decode method_2_code 167 = .ok (.if_icmp .lt 11, 3) := by decide +kernel
theorem d2_170 : decode method_2_code 170 = .ok (.iload_n 0, 1) := by decide +kernel
theorem d2_171 : decode method_2_code 171 = .ok (.ldc 10, 2) := by decide +kernel
theorem d2_173 : decode method_2_code 173 = .ok (.if_icmp .gt 5, 3) := by decide +kernel
theorem d2_176 : decode method_2_code 176 = .ok (.iconst 1, 1) := by decide +kernel
theorem d2_177 : decode method_2_code 177 = .ok (.ireturn, 1) := by decide +kernel
theorem d2_178 : decode method_2_code 178 = .ok (.iload_n 0, 1) := by decide +kernel
theorem d2_179 : decode method_2_code 179 = .ok (.ldc 11, 2) := by decide +kernel
theorem d2_181 : decode method_2_code 181 = .ok (.if_icmp .eq 9, 3) := by decide +kernel
theorem d2_184 : decode method_2_code 184 = .ok (.iload_n 0, 1) := by decide +kernel
theorem d2_185 : decode method_2_code 185 = .ok (.ldc 12, 2) := by decide +kernel
theorem d2_187 : decode method_2_code 187 = .ok (.if_icmp .ne 5, 3) := by decide +kernel
theorem d2_190 : decode method_2_code 190 = .ok (.iconst 1, 1) := by decide +kernel
theorem d2_191 : decode method_2_code 191 = .ok (.ireturn, 1) := by decide +kernel
theorem d2_192 : decode method_2_code 192 = .ok (.iload_n 0, 1) := by decide +kernel
theorem d2_193 : decode method_2_code 193 = .ok (.ldc 13, 2) := by decide +kernel
theorem d2_195 : decode method_2_code 195 = .ok (.if_icmp .lt 7, 3) := by decide +kernel
theorem d2_198 : decode method_2_code 198 = .ok (.iconst 1, 1) := by decide +kernel
theorem d2_199 : decode method_2_code 199 = .ok (.goto 4, 3) := by decide +kernel
theorem d2_202 : decode method_2_code 202 = .ok (.iconst 0, 1) := by decide +kernel
theorem d2_203 : decode method_2_code 203 = .ok (.ireturn, 1) := by decide +kernel
theorem pn_2 : plainName "com/example/stylesheet_processor/stylesheetprocessor/model/NamesIsNCNameStartCharPinLaw" = true := by first | (simp [plainName, overriddenIn]; done) | decide +kernel
theorem ef_2 (m : MethodId) (x0 : Int32) : entryFrame m #[(.int x0)] 1 = mkF m 0 #[.val (.int x0)] [] := by first | (simp [entryFrame, mkF, argsToLocals, Value.category]; done) | rfl
def F2_202 (x : Int32) : Int32 := (0 : Int32)
def F2_198 (x : Int32) : Int32 := (1 : Int32)
def F2_192 (x : Int32) : Int32 := if x < (983040 : Int32) then F2_202 x else F2_198 x
def F2_190 (x : Int32) : Int32 := (1 : Int32)
def F2_184 (x : Int32) : Int32 := if x = (65535 : Int32) then F2_190 x else F2_192 x
def F2_178 (x : Int32) : Int32 := if x = (65534 : Int32) then F2_190 x else F2_184 x
def F2_176 (x : Int32) : Int32 := (1 : Int32)
def F2_170 (x : Int32) : Int32 := if (65007 : Int32) < x then F2_178 x else F2_176 x
def F2_164 (x : Int32) : Int32 := if x < (64976 : Int32) then F2_178 x else F2_170 x
def F2_162 (x : Int32) : Int32 := (1 : Int32)
def F2_156 (x : Int32) : Int32 := if (63743 : Int32) < x then F2_164 x else F2_162 x
def F2_150 (x : Int32) : Int32 := if x < (55296 : Int32) then F2_164 x else F2_156 x
def F2_148 (x : Int32) : Int32 := (1 : Int32)
def F2_141 (x : Int32) : Int32 := if (12288 : Int32) < x then F2_150 x else F2_148 x
def F2_134 (x : Int32) : Int32 := if x < (12272 : Int32) then F2_150 x else F2_141 x
def F2_132 (x : Int32) : Int32 := (1 : Int32)
def F2_125 (x : Int32) : Int32 := if (11263 : Int32) < x then F2_134 x else F2_132 x
def F2_118 (x : Int32) : Int32 := if x < (8592 : Int32) then F2_134 x else F2_125 x
def F2_116 (x : Int32) : Int32 := (1 : Int32)
def F2_109 (x : Int32) : Int32 := if (8303 : Int32) < x then F2_118 x else F2_116 x
def F2_102 (x : Int32) : Int32 := if x < (8206 : Int32) then F2_118 x else F2_109 x
def F2_100 (x : Int32) : Int32 := (1 : Int32)
def F2_93 (x : Int32) : Int32 := if (8203 : Int32) < x then F2_102 x else F2_100 x
def F2_86 (x : Int32) : Int32 := if x < (8192 : Int32) then F2_102 x else F2_93 x
def F2_84 (x : Int32) : Int32 := (1 : Int32)
def F2_77 (x : Int32) : Int32 := if x = (894 : Int32) then F2_84 x else F2_86 x
def F2_75 (x : Int32) : Int32 := (1 : Int32)
def F2_68 (x : Int32) : Int32 := if (879 : Int32) < x then F2_77 x else F2_75 x
def F2_61 (x : Int32) : Int32 := if x < (768 : Int32) then F2_77 x else F2_68 x
def F2_59 (x : Int32) : Int32 := (1 : Int32)
def F2_52 (x : Int32) : Int32 := if x = (247 : Int32) then F2_59 x else F2_61 x
def F2_45 (x : Int32) : Int32 := if x = (215 : Int32) then F2_59 x else F2_52 x
def F2_43 (x : Int32) : Int32 := (1 : Int32)
def F2_36 (x : Int32) : Int32 := if (191 : Int32) < x then F2_45 x else F2_43 x
def F2_30 (x : Int32) : Int32 := if x < (123 : Int32) then F2_45 x else F2_36 x
def F2_28 (x : Int32) : Int32 := (1 : Int32)
def F2_22 (x : Int32) : Int32 := if x = (96 : Int32) then F2_28 x else F2_30 x
def F2_20 (x : Int32) : Int32 := (1 : Int32)
def F2_14 (x : Int32) : Int32 := if (94 : Int32) < x then F2_22 x else F2_20 x
def F2_8 (x : Int32) : Int32 := if x < (91 : Int32) then F2_22 x else F2_14 x
def F2_6 (x : Int32) : Int32 := (1 : Int32)
def F2_0 (x : Int32) : Int32 := if x < (65 : Int32) then F2_6 x else F2_8 x
def Q2 (Z : State) (x : Int32) (h0 : Heap) (n0 : Nat) (v_ : Option Value) (h_ : Heap) (L_ : List Loc) : Prop := v_ = some (.int (F2_0 x)) ∧ Fr n0 L_ ∧ h_ = h0
set_option maxRecDepth 65536 in
set_option maxHeartbeats 40000000 in
theorem rm2 (l : Launch) (Z : State) (a0 : Array Value) (hw : ∀ d ∈ tables_1, d.before a0 Z = true) (ws : List Jvm.Cond) (x : Int32) (h0 : Heap) (n0 : Nat) (Z0 : n0 ≤ h0.size) :
    MetFree l (⟨"com/example/stylesheet_processor/stylesheetprocessor/model/NamesIsNCNameStartCharPinLaw", "excluded", "(I)Z"⟩ : MethodName) (head1 (Jvm.Cond.code (⟨"com/example/stylesheet_processor/stylesheetprocessor/model/NamesIsNCNameStartCharPinLaw", "excluded", "(I)Z"⟩ : MethodName) method_2_code 1 (some .boolean) :: ws) ({ frames := 0, cells := 0, slots := 0, locals := 0 } : Room)) (fun a_ U_ => a_ = #[(.int x)] ∧ Z.Warmed39 U_.vm ∧ U_.heap = h0) (fun _ _ _ _ _ => True) (fun _ U_ o_ V_ => ∃ v_ L_, o_ = .returned v_ ∧ Q2 Z x h0 n0 v_ V_.heap L_ ∧ FrameEnd U_ o_ V_ L_ ({ frames := 0, cells := 0, slots := 0, locals := 0 } : Room).cells ({ frames := 0, cells := 0, slots := 0, locals := 0 } : Room).slots) := by
  refine MetFree.of_bodySF (plainFor_of_name pn_2) hisR ?_
  intro p e s m args below meth c s₁ Bd hml0 hP hK
  obtain ⟨rfl, hZ, hh⟩ := hP
  have hx := Bd.exec
  have hby := Bd.bytes
  have hml : c.maxLocals = 1 := hml0
  have hown : s.vm.findClass "com/example/stylesheet_processor/stylesheetprocessor/model/NamesIsNCNameStartCharPinLaw" = some m.cls := findClass_of_methodNamed Bd.named
  have hnm := (name_of_methodNamed Bd.named Bd.method).1
  have hlk : meth.locks = false := BodyLoose.notSynchronized Bd
  have hrt := Bd.returns
  have X0 : Stand p l e ({ frames := 0, cells := 0, slots := 0, locals := 0 } : Room) s m #[(.int x)] below meth c s₁ [] 0 0 := Stand.of_body Bd
  have e0 : s₁.heap = h0 := by rw [← hh, Bd.state]; rfl
  have N0 := Fr.nil n0
  show Go p.tables e below (PQ s below (Q2 Z x h0 n0) 0 0) _
  have t202 : Go p.tables e below (PQ s below (fun v_ h_ L_ => v_ = some (.int (F2_202 x)) ∧ Fr n0 L_ ∧ h_ = h0) 0 0) (s₁.setTop (mkF m 202 #[.val (.int x)] [])) := by
    refine Go.via (B := s₁.setTop (mkF m 203 #[.val (.int x)] [(.int (0 : Int32))])) (fun t_ k_ => ?_) ?_
    · show Steps p.tables e below (s₁.setTop (mkF m 202 #[.val (.int x)] [])) t_
      refine XS.iconst X0.here hx rfl (hb hby d2_202) ?_
      show Steps p.tables e below (s₁.setTop (mkF m 203 #[.val (.int x)] [(.int (0 : Int32))])) t_
      exact k_
    exact Go.leave X0 hlk (v := (some (.int (0 : Int32)))) (fun h => by rw [hrt] at h; cases h) (fun fs hr => retN X0 hx (t := .boolean) hrt (by simp) (hb hby d2_203) hr) (by decide) (by decide) (⟨rfl, N0, e0⟩)
  have t198 : Go p.tables e below (PQ s below (fun v_ h_ L_ => v_ = some (.int (F2_198 x)) ∧ Fr n0 L_ ∧ h_ = h0) 0 0) (s₁.setTop (mkF m 198 #[.val (.int x)] [])) := by
    refine Go.via (B := s₁.setTop (mkF m 203 #[.val (.int x)] [(.int (1 : Int32))])) (fun t_ k_ => ?_) ?_
    · show Steps p.tables e below (s₁.setTop (mkF m 198 #[.val (.int x)] [])) t_
      refine XS.iconst X0.here hx rfl (hb hby d2_198) ?_
      show Steps p.tables e below (s₁.setTop (mkF m 199 #[.val (.int x)] [(.int (1 : Int32))])) t_
      refine XS.goto X0.here hx rfl (pc0 := 199) (pc' := 203) rfl (hb hby d2_199) (by decide) (by decide) ?_
      show Steps p.tables e below (s₁.setTop (mkF m 203 #[.val (.int x)] [(.int (1 : Int32))])) t_
      exact k_
    exact Go.leave X0 hlk (v := (some (.int (1 : Int32)))) (fun h => by rw [hrt] at h; cases h) (fun fs hr => retN X0 hx (t := .boolean) hrt (by simp) (hb hby d2_203) hr) (by decide) (by decide) (⟨rfl, N0, e0⟩)
  have t192 : Go p.tables e below (PQ s below (fun v_ h_ L_ => v_ = some (.int (F2_192 x)) ∧ Fr n0 L_ ∧ h_ = h0) 0 0) (s₁.setTop (mkF m 192 #[.val (.int x)] [])) := by
    refine Go.via (B := s₁.setTop (mkF m 195 #[.val (.int x)] [(.int (983040 : Int32)), (.int x)])) (fun t_ k_ => ?_) ?_
    · show Steps p.tables e below (s₁.setTop (mkF m 192 #[.val (.int x)] [])) t_
      refine XS.iloadN X0.here hx rfl (hb hby d2_192) rfl ?_
      show Steps p.tables e below (s₁.setTop (mkF m 193 #[.val (.int x)] [(.int x)])) t_
      refine X0.ldcInt hx hown (mvT hZ (hw _ (List.mem_of_getElem? (i := 25) rfl))) (g := (mkF m 193 #[.val (.int x)] [(.int x)])) rfl (hb hby d2_193) _ ?_
      show Steps p.tables e below (s₁.setTop (mkF m 195 #[.val (.int x)] [(.int (983040 : Int32)), (.int x)])) t_
      exact k_
    by_cases hc195 : x < (983040 : Int32)
    · rw [show F2_192 x = F2_202 x from if_pos hc195]
      refine Go.via (B := s₁.setTop (mkF m 202 #[.val (.int x)] [])) (fun t_ k_ => XS.icmpYes X0.here hx rfl (pc0 := 195) (pc' := 202) rfl (hb hby d2_195) rfl ((tlt hc195).1) (by decide) (by decide) k_) ?_
      exact t202
    · rw [show F2_192 x = F2_198 x from if_neg hc195]
      refine Go.via (B := s₁.setTop (mkF m 198 #[.val (.int x)] [])) (fun t_ k_ => XS.icmpNo X0.here hx rfl (hb hby d2_195) rfl ((flt hc195).1) k_) ?_
      exact t198
  have t190 : Go p.tables e below (PQ s below (fun v_ h_ L_ => v_ = some (.int (F2_190 x)) ∧ Fr n0 L_ ∧ h_ = h0) 0 0) (s₁.setTop (mkF m 190 #[.val (.int x)] [])) := by
    refine Go.via (B := s₁.setTop (mkF m 191 #[.val (.int x)] [(.int (1 : Int32))])) (fun t_ k_ => ?_) ?_
    · show Steps p.tables e below (s₁.setTop (mkF m 190 #[.val (.int x)] [])) t_
      refine XS.iconst X0.here hx rfl (hb hby d2_190) ?_
      show Steps p.tables e below (s₁.setTop (mkF m 191 #[.val (.int x)] [(.int (1 : Int32))])) t_
      exact k_
    exact Go.leave X0 hlk (v := (some (.int (1 : Int32)))) (fun h => by rw [hrt] at h; cases h) (fun fs hr => retN X0 hx (t := .boolean) hrt (by simp) (hb hby d2_191) hr) (by decide) (by decide) (⟨rfl, N0, e0⟩)
  have t184 : Go p.tables e below (PQ s below (fun v_ h_ L_ => v_ = some (.int (F2_184 x)) ∧ Fr n0 L_ ∧ h_ = h0) 0 0) (s₁.setTop (mkF m 184 #[.val (.int x)] [])) := by
    refine Go.via (B := s₁.setTop (mkF m 187 #[.val (.int x)] [(.int (65535 : Int32)), (.int x)])) (fun t_ k_ => ?_) ?_
    · show Steps p.tables e below (s₁.setTop (mkF m 184 #[.val (.int x)] [])) t_
      refine XS.iloadN X0.here hx rfl (hb hby d2_184) rfl ?_
      show Steps p.tables e below (s₁.setTop (mkF m 185 #[.val (.int x)] [(.int x)])) t_
      refine X0.ldcInt hx hown (mvT hZ (hw _ (List.mem_of_getElem? (i := 24) rfl))) (g := (mkF m 185 #[.val (.int x)] [(.int x)])) rfl (hb hby d2_185) _ ?_
      show Steps p.tables e below (s₁.setTop (mkF m 187 #[.val (.int x)] [(.int (65535 : Int32)), (.int x)])) t_
      exact k_
    by_cases hc187 : x = (65535 : Int32)
    · rw [show F2_184 x = F2_190 x from if_pos hc187]
      refine Go.via (B := s₁.setTop (mkF m 190 #[.val (.int x)] [])) (fun t_ k_ => XS.icmpNo X0.here hx rfl (hb hby d2_187) rfl ((teq hc187).2) k_) ?_
      exact t190
    · rw [show F2_184 x = F2_192 x from if_neg hc187]
      refine Go.via (B := s₁.setTop (mkF m 192 #[.val (.int x)] [])) (fun t_ k_ => XS.icmpYes X0.here hx rfl (pc0 := 187) (pc' := 192) rfl (hb hby d2_187) rfl ((feq hc187).2) (by decide) (by decide) k_) ?_
      exact t192
  have t178 : Go p.tables e below (PQ s below (fun v_ h_ L_ => v_ = some (.int (F2_178 x)) ∧ Fr n0 L_ ∧ h_ = h0) 0 0) (s₁.setTop (mkF m 178 #[.val (.int x)] [])) := by
    refine Go.via (B := s₁.setTop (mkF m 181 #[.val (.int x)] [(.int (65534 : Int32)), (.int x)])) (fun t_ k_ => ?_) ?_
    · show Steps p.tables e below (s₁.setTop (mkF m 178 #[.val (.int x)] [])) t_
      refine XS.iloadN X0.here hx rfl (hb hby d2_178) rfl ?_
      show Steps p.tables e below (s₁.setTop (mkF m 179 #[.val (.int x)] [(.int x)])) t_
      refine X0.ldcInt hx hown (mvT hZ (hw _ (List.mem_of_getElem? (i := 23) rfl))) (g := (mkF m 179 #[.val (.int x)] [(.int x)])) rfl (hb hby d2_179) _ ?_
      show Steps p.tables e below (s₁.setTop (mkF m 181 #[.val (.int x)] [(.int (65534 : Int32)), (.int x)])) t_
      exact k_
    by_cases hc181 : x = (65534 : Int32)
    · rw [show F2_178 x = F2_190 x from if_pos hc181]
      refine Go.via (B := s₁.setTop (mkF m 190 #[.val (.int x)] [])) (fun t_ k_ => XS.icmpYes X0.here hx rfl (pc0 := 181) (pc' := 190) rfl (hb hby d2_181) rfl ((teq hc181).1) (by decide) (by decide) k_) ?_
      exact t190
    · rw [show F2_178 x = F2_184 x from if_neg hc181]
      refine Go.via (B := s₁.setTop (mkF m 184 #[.val (.int x)] [])) (fun t_ k_ => XS.icmpNo X0.here hx rfl (hb hby d2_181) rfl ((feq hc181).1) k_) ?_
      exact t184
  have t176 : Go p.tables e below (PQ s below (fun v_ h_ L_ => v_ = some (.int (F2_176 x)) ∧ Fr n0 L_ ∧ h_ = h0) 0 0) (s₁.setTop (mkF m 176 #[.val (.int x)] [])) := by
    refine Go.via (B := s₁.setTop (mkF m 177 #[.val (.int x)] [(.int (1 : Int32))])) (fun t_ k_ => ?_) ?_
    · show Steps p.tables e below (s₁.setTop (mkF m 176 #[.val (.int x)] [])) t_
      refine XS.iconst X0.here hx rfl (hb hby d2_176) ?_
      show Steps p.tables e below (s₁.setTop (mkF m 177 #[.val (.int x)] [(.int (1 : Int32))])) t_
      exact k_
    exact Go.leave X0 hlk (v := (some (.int (1 : Int32)))) (fun h => by rw [hrt] at h; cases h) (fun fs hr => retN X0 hx (t := .boolean) hrt (by simp) (hb hby d2_177) hr) (by decide) (by decide) (⟨rfl, N0, e0⟩)
  have t170 : Go p.tables e below (PQ s below (fun v_ h_ L_ => v_ = some (.int (F2_170 x)) ∧ Fr n0 L_ ∧ h_ = h0) 0 0) (s₁.setTop (mkF m 170 #[.val (.int x)] [])) := by
    refine Go.via (B := s₁.setTop (mkF m 173 #[.val (.int x)] [(.int (65007 : Int32)), (.int x)])) (fun t_ k_ => ?_) ?_
    · show Steps p.tables e below (s₁.setTop (mkF m 170 #[.val (.int x)] [])) t_
      refine XS.iloadN X0.here hx rfl (hb hby d2_170) rfl ?_
      show Steps p.tables e below (s₁.setTop (mkF m 171 #[.val (.int x)] [(.int x)])) t_
      refine X0.ldcInt hx hown (mvT hZ (hw _ (List.mem_of_getElem? (i := 31) rfl))) (g := (mkF m 171 #[.val (.int x)] [(.int x)])) rfl (hb hby d2_171) _ ?_
      show Steps p.tables e below (s₁.setTop (mkF m 173 #[.val (.int x)] [(.int (65007 : Int32)), (.int x)])) t_
      exact k_
    by_cases hc173 : (65007 : Int32) < x
    · rw [show F2_170 x = F2_178 x from if_pos hc173]
      refine Go.via (B := s₁.setTop (mkF m 178 #[.val (.int x)] [])) (fun t_ k_ => XS.icmpYes X0.here hx rfl (pc0 := 173) (pc' := 178) rfl (hb hby d2_173) rfl ((tlt hc173).2.2.1) (by decide) (by decide) k_) ?_
      exact t178
    · rw [show F2_170 x = F2_176 x from if_neg hc173]
      refine Go.via (B := s₁.setTop (mkF m 176 #[.val (.int x)] [])) (fun t_ k_ => XS.icmpNo X0.here hx rfl (hb hby d2_173) rfl ((flt hc173).2.2.1) k_) ?_
      exact t176
  have t164 : Go p.tables e below (PQ s below (fun v_ h_ L_ => v_ = some (.int (F2_164 x)) ∧ Fr n0 L_ ∧ h_ = h0) 0 0) (s₁.setTop (mkF m 164 #[.val (.int x)] [])) := by
    refine Go.via (B := s₁.setTop (mkF m 167 #[.val (.int x)] [(.int (64976 : Int32)), (.int x)])) (fun t_ k_ => ?_) ?_
    · show Steps p.tables e below (s₁.setTop (mkF m 164 #[.val (.int x)] [])) t_
      refine XS.iloadN X0.here hx rfl (hb hby d2_164) rfl ?_
      show Steps p.tables e below (s₁.setTop (mkF m 165 #[.val (.int x)] [(.int x)])) t_
      refine X0.ldcInt hx hown (mvT hZ (hw _ (List.mem_of_getElem? (i := 22) rfl))) (g := (mkF m 165 #[.val (.int x)] [(.int x)])) rfl (hb hby d2_165) _ ?_
      show Steps p.tables e below (s₁.setTop (mkF m 167 #[.val (.int x)] [(.int (64976 : Int32)), (.int x)])) t_
      exact k_
    by_cases hc167 : x < (64976 : Int32)
    · rw [show F2_164 x = F2_178 x from if_pos hc167]
      refine Go.via (B := s₁.setTop (mkF m 178 #[.val (.int x)] [])) (fun t_ k_ => XS.icmpYes X0.here hx rfl (pc0 := 167) (pc' := 178) rfl (hb hby d2_167) rfl ((tlt hc167).1) (by decide) (by decide) k_) ?_
      exact t178
    · rw [show F2_164 x = F2_170 x from if_neg hc167]
      refine Go.via (B := s₁.setTop (mkF m 170 #[.val (.int x)] [])) (fun t_ k_ => XS.icmpNo X0.here hx rfl (hb hby d2_167) rfl ((flt hc167).1) k_) ?_
      exact t170
  have t162 : Go p.tables e below (PQ s below (fun v_ h_ L_ => v_ = some (.int (F2_162 x)) ∧ Fr n0 L_ ∧ h_ = h0) 0 0) (s₁.setTop (mkF m 162 #[.val (.int x)] [])) := by
    refine Go.via (B := s₁.setTop (mkF m 163 #[.val (.int x)] [(.int (1 : Int32))])) (fun t_ k_ => ?_) ?_
    · show Steps p.tables e below (s₁.setTop (mkF m 162 #[.val (.int x)] [])) t_
      refine XS.iconst X0.here hx rfl (hb hby d2_162) ?_
      show Steps p.tables e below (s₁.setTop (mkF m 163 #[.val (.int x)] [(.int (1 : Int32))])) t_
      exact k_
    exact Go.leave X0 hlk (v := (some (.int (1 : Int32)))) (fun h => by rw [hrt] at h; cases h) (fun fs hr => retN X0 hx (t := .boolean) hrt (by simp) (hb hby d2_163) hr) (by decide) (by decide) (⟨rfl, N0, e0⟩)
  have t156 : Go p.tables e below (PQ s below (fun v_ h_ L_ => v_ = some (.int (F2_156 x)) ∧ Fr n0 L_ ∧ h_ = h0) 0 0) (s₁.setTop (mkF m 156 #[.val (.int x)] [])) := by
    refine Go.via (B := s₁.setTop (mkF m 159 #[.val (.int x)] [(.int (63743 : Int32)), (.int x)])) (fun t_ k_ => ?_) ?_
    · show Steps p.tables e below (s₁.setTop (mkF m 156 #[.val (.int x)] [])) t_
      refine XS.iloadN X0.here hx rfl (hb hby d2_156) rfl ?_
      show Steps p.tables e below (s₁.setTop (mkF m 157 #[.val (.int x)] [(.int x)])) t_
      refine X0.ldcInt hx hown (mvT hZ (hw _ (List.mem_of_getElem? (i := 30) rfl))) (g := (mkF m 157 #[.val (.int x)] [(.int x)])) rfl (hb hby d2_157) _ ?_
      show Steps p.tables e below (s₁.setTop (mkF m 159 #[.val (.int x)] [(.int (63743 : Int32)), (.int x)])) t_
      exact k_
    by_cases hc159 : (63743 : Int32) < x
    · rw [show F2_156 x = F2_164 x from if_pos hc159]
      refine Go.via (B := s₁.setTop (mkF m 164 #[.val (.int x)] [])) (fun t_ k_ => XS.icmpYes X0.here hx rfl (pc0 := 159) (pc' := 164) rfl (hb hby d2_159) rfl ((tlt hc159).2.2.1) (by decide) (by decide) k_) ?_
      exact t164
    · rw [show F2_156 x = F2_162 x from if_neg hc159]
      refine Go.via (B := s₁.setTop (mkF m 162 #[.val (.int x)] [])) (fun t_ k_ => XS.icmpNo X0.here hx rfl (hb hby d2_159) rfl ((flt hc159).2.2.1) k_) ?_
      exact t162
  have t150 : Go p.tables e below (PQ s below (fun v_ h_ L_ => v_ = some (.int (F2_150 x)) ∧ Fr n0 L_ ∧ h_ = h0) 0 0) (s₁.setTop (mkF m 150 #[.val (.int x)] [])) := by
    refine Go.via (B := s₁.setTop (mkF m 153 #[.val (.int x)] [(.int (55296 : Int32)), (.int x)])) (fun t_ k_ => ?_) ?_
    · show Steps p.tables e below (s₁.setTop (mkF m 150 #[.val (.int x)] [])) t_
      refine XS.iloadN X0.here hx rfl (hb hby d2_150) rfl ?_
      show Steps p.tables e below (s₁.setTop (mkF m 151 #[.val (.int x)] [(.int x)])) t_
      refine X0.ldcInt hx hown (mvT hZ (hw _ (List.mem_of_getElem? (i := 21) rfl))) (g := (mkF m 151 #[.val (.int x)] [(.int x)])) rfl (hb hby d2_151) _ ?_
      show Steps p.tables e below (s₁.setTop (mkF m 153 #[.val (.int x)] [(.int (55296 : Int32)), (.int x)])) t_
      exact k_
    by_cases hc153 : x < (55296 : Int32)
    · rw [show F2_150 x = F2_164 x from if_pos hc153]
      refine Go.via (B := s₁.setTop (mkF m 164 #[.val (.int x)] [])) (fun t_ k_ => XS.icmpYes X0.here hx rfl (pc0 := 153) (pc' := 164) rfl (hb hby d2_153) rfl ((tlt hc153).1) (by decide) (by decide) k_) ?_
      exact t164
    · rw [show F2_150 x = F2_156 x from if_neg hc153]
      refine Go.via (B := s₁.setTop (mkF m 156 #[.val (.int x)] [])) (fun t_ k_ => XS.icmpNo X0.here hx rfl (hb hby d2_153) rfl ((flt hc153).1) k_) ?_
      exact t156
  have t148 : Go p.tables e below (PQ s below (fun v_ h_ L_ => v_ = some (.int (F2_148 x)) ∧ Fr n0 L_ ∧ h_ = h0) 0 0) (s₁.setTop (mkF m 148 #[.val (.int x)] [])) := by
    refine Go.via (B := s₁.setTop (mkF m 149 #[.val (.int x)] [(.int (1 : Int32))])) (fun t_ k_ => ?_) ?_
    · show Steps p.tables e below (s₁.setTop (mkF m 148 #[.val (.int x)] [])) t_
      refine XS.iconst X0.here hx rfl (hb hby d2_148) ?_
      show Steps p.tables e below (s₁.setTop (mkF m 149 #[.val (.int x)] [(.int (1 : Int32))])) t_
      exact k_
    exact Go.leave X0 hlk (v := (some (.int (1 : Int32)))) (fun h => by rw [hrt] at h; cases h) (fun fs hr => retN X0 hx (t := .boolean) hrt (by simp) (hb hby d2_149) hr) (by decide) (by decide) (⟨rfl, N0, e0⟩)
  have t141 : Go p.tables e below (PQ s below (fun v_ h_ L_ => v_ = some (.int (F2_141 x)) ∧ Fr n0 L_ ∧ h_ = h0) 0 0) (s₁.setTop (mkF m 141 #[.val (.int x)] [])) := by
    refine Go.via (B := s₁.setTop (mkF m 145 #[.val (.int x)] [(.int (12288 : Int32)), (.int x)])) (fun t_ k_ => ?_) ?_
    · show Steps p.tables e below (s₁.setTop (mkF m 141 #[.val (.int x)] [])) t_
      refine XS.iloadN X0.here hx rfl (hb hby d2_141) rfl ?_
      show Steps p.tables e below (s₁.setTop (mkF m 142 #[.val (.int x)] [(.int x)])) t_
      refine XS.sipush X0.here hx rfl (hb hby d2_142) ?_
      show Steps p.tables e below (s₁.setTop (mkF m 145 #[.val (.int x)] [(.int (12288 : Int32)), (.int x)])) t_
      exact k_
    by_cases hc145 : (12288 : Int32) < x
    · rw [show F2_141 x = F2_150 x from if_pos hc145]
      refine Go.via (B := s₁.setTop (mkF m 150 #[.val (.int x)] [])) (fun t_ k_ => XS.icmpYes X0.here hx rfl (pc0 := 145) (pc' := 150) rfl (hb hby d2_145) rfl ((tlt hc145).2.2.1) (by decide) (by decide) k_) ?_
      exact t150
    · rw [show F2_141 x = F2_148 x from if_neg hc145]
      refine Go.via (B := s₁.setTop (mkF m 148 #[.val (.int x)] [])) (fun t_ k_ => XS.icmpNo X0.here hx rfl (hb hby d2_145) rfl ((flt hc145).2.2.1) k_) ?_
      exact t148
  have t134 : Go p.tables e below (PQ s below (fun v_ h_ L_ => v_ = some (.int (F2_134 x)) ∧ Fr n0 L_ ∧ h_ = h0) 0 0) (s₁.setTop (mkF m 134 #[.val (.int x)] [])) := by
    refine Go.via (B := s₁.setTop (mkF m 138 #[.val (.int x)] [(.int (12272 : Int32)), (.int x)])) (fun t_ k_ => ?_) ?_
    · show Steps p.tables e below (s₁.setTop (mkF m 134 #[.val (.int x)] [])) t_
      refine XS.iloadN X0.here hx rfl (hb hby d2_134) rfl ?_
      show Steps p.tables e below (s₁.setTop (mkF m 135 #[.val (.int x)] [(.int x)])) t_
      refine XS.sipush X0.here hx rfl (hb hby d2_135) ?_
      show Steps p.tables e below (s₁.setTop (mkF m 138 #[.val (.int x)] [(.int (12272 : Int32)), (.int x)])) t_
      exact k_
    by_cases hc138 : x < (12272 : Int32)
    · rw [show F2_134 x = F2_150 x from if_pos hc138]
      refine Go.via (B := s₁.setTop (mkF m 150 #[.val (.int x)] [])) (fun t_ k_ => XS.icmpYes X0.here hx rfl (pc0 := 138) (pc' := 150) rfl (hb hby d2_138) rfl ((tlt hc138).1) (by decide) (by decide) k_) ?_
      exact t150
    · rw [show F2_134 x = F2_141 x from if_neg hc138]
      refine Go.via (B := s₁.setTop (mkF m 141 #[.val (.int x)] [])) (fun t_ k_ => XS.icmpNo X0.here hx rfl (hb hby d2_138) rfl ((flt hc138).1) k_) ?_
      exact t141
  have t132 : Go p.tables e below (PQ s below (fun v_ h_ L_ => v_ = some (.int (F2_132 x)) ∧ Fr n0 L_ ∧ h_ = h0) 0 0) (s₁.setTop (mkF m 132 #[.val (.int x)] [])) := by
    refine Go.via (B := s₁.setTop (mkF m 133 #[.val (.int x)] [(.int (1 : Int32))])) (fun t_ k_ => ?_) ?_
    · show Steps p.tables e below (s₁.setTop (mkF m 132 #[.val (.int x)] [])) t_
      refine XS.iconst X0.here hx rfl (hb hby d2_132) ?_
      show Steps p.tables e below (s₁.setTop (mkF m 133 #[.val (.int x)] [(.int (1 : Int32))])) t_
      exact k_
    exact Go.leave X0 hlk (v := (some (.int (1 : Int32)))) (fun h => by rw [hrt] at h; cases h) (fun fs hr => retN X0 hx (t := .boolean) hrt (by simp) (hb hby d2_133) hr) (by decide) (by decide) (⟨rfl, N0, e0⟩)
  have t125 : Go p.tables e below (PQ s below (fun v_ h_ L_ => v_ = some (.int (F2_125 x)) ∧ Fr n0 L_ ∧ h_ = h0) 0 0) (s₁.setTop (mkF m 125 #[.val (.int x)] [])) := by
    refine Go.via (B := s₁.setTop (mkF m 129 #[.val (.int x)] [(.int (11263 : Int32)), (.int x)])) (fun t_ k_ => ?_) ?_
    · show Steps p.tables e below (s₁.setTop (mkF m 125 #[.val (.int x)] [])) t_
      refine XS.iloadN X0.here hx rfl (hb hby d2_125) rfl ?_
      show Steps p.tables e below (s₁.setTop (mkF m 126 #[.val (.int x)] [(.int x)])) t_
      refine XS.sipush X0.here hx rfl (hb hby d2_126) ?_
      show Steps p.tables e below (s₁.setTop (mkF m 129 #[.val (.int x)] [(.int (11263 : Int32)), (.int x)])) t_
      exact k_
    by_cases hc129 : (11263 : Int32) < x
    · rw [show F2_125 x = F2_134 x from if_pos hc129]
      refine Go.via (B := s₁.setTop (mkF m 134 #[.val (.int x)] [])) (fun t_ k_ => XS.icmpYes X0.here hx rfl (pc0 := 129) (pc' := 134) rfl (hb hby d2_129) rfl ((tlt hc129).2.2.1) (by decide) (by decide) k_) ?_
      exact t134
    · rw [show F2_125 x = F2_132 x from if_neg hc129]
      refine Go.via (B := s₁.setTop (mkF m 132 #[.val (.int x)] [])) (fun t_ k_ => XS.icmpNo X0.here hx rfl (hb hby d2_129) rfl ((flt hc129).2.2.1) k_) ?_
      exact t132
  have t118 : Go p.tables e below (PQ s below (fun v_ h_ L_ => v_ = some (.int (F2_118 x)) ∧ Fr n0 L_ ∧ h_ = h0) 0 0) (s₁.setTop (mkF m 118 #[.val (.int x)] [])) := by
    refine Go.via (B := s₁.setTop (mkF m 122 #[.val (.int x)] [(.int (8592 : Int32)), (.int x)])) (fun t_ k_ => ?_) ?_
    · show Steps p.tables e below (s₁.setTop (mkF m 118 #[.val (.int x)] [])) t_
      refine XS.iloadN X0.here hx rfl (hb hby d2_118) rfl ?_
      show Steps p.tables e below (s₁.setTop (mkF m 119 #[.val (.int x)] [(.int x)])) t_
      refine XS.sipush X0.here hx rfl (hb hby d2_119) ?_
      show Steps p.tables e below (s₁.setTop (mkF m 122 #[.val (.int x)] [(.int (8592 : Int32)), (.int x)])) t_
      exact k_
    by_cases hc122 : x < (8592 : Int32)
    · rw [show F2_118 x = F2_134 x from if_pos hc122]
      refine Go.via (B := s₁.setTop (mkF m 134 #[.val (.int x)] [])) (fun t_ k_ => XS.icmpYes X0.here hx rfl (pc0 := 122) (pc' := 134) rfl (hb hby d2_122) rfl ((tlt hc122).1) (by decide) (by decide) k_) ?_
      exact t134
    · rw [show F2_118 x = F2_125 x from if_neg hc122]
      refine Go.via (B := s₁.setTop (mkF m 125 #[.val (.int x)] [])) (fun t_ k_ => XS.icmpNo X0.here hx rfl (hb hby d2_122) rfl ((flt hc122).1) k_) ?_
      exact t125
  have t116 : Go p.tables e below (PQ s below (fun v_ h_ L_ => v_ = some (.int (F2_116 x)) ∧ Fr n0 L_ ∧ h_ = h0) 0 0) (s₁.setTop (mkF m 116 #[.val (.int x)] [])) := by
    refine Go.via (B := s₁.setTop (mkF m 117 #[.val (.int x)] [(.int (1 : Int32))])) (fun t_ k_ => ?_) ?_
    · show Steps p.tables e below (s₁.setTop (mkF m 116 #[.val (.int x)] [])) t_
      refine XS.iconst X0.here hx rfl (hb hby d2_116) ?_
      show Steps p.tables e below (s₁.setTop (mkF m 117 #[.val (.int x)] [(.int (1 : Int32))])) t_
      exact k_
    exact Go.leave X0 hlk (v := (some (.int (1 : Int32)))) (fun h => by rw [hrt] at h; cases h) (fun fs hr => retN X0 hx (t := .boolean) hrt (by simp) (hb hby d2_117) hr) (by decide) (by decide) (⟨rfl, N0, e0⟩)
  have t109 : Go p.tables e below (PQ s below (fun v_ h_ L_ => v_ = some (.int (F2_109 x)) ∧ Fr n0 L_ ∧ h_ = h0) 0 0) (s₁.setTop (mkF m 109 #[.val (.int x)] [])) := by
    refine Go.via (B := s₁.setTop (mkF m 113 #[.val (.int x)] [(.int (8303 : Int32)), (.int x)])) (fun t_ k_ => ?_) ?_
    · show Steps p.tables e below (s₁.setTop (mkF m 109 #[.val (.int x)] [])) t_
      refine XS.iloadN X0.here hx rfl (hb hby d2_109) rfl ?_
      show Steps p.tables e below (s₁.setTop (mkF m 110 #[.val (.int x)] [(.int x)])) t_
      refine XS.sipush X0.here hx rfl (hb hby d2_110) ?_
      show Steps p.tables e below (s₁.setTop (mkF m 113 #[.val (.int x)] [(.int (8303 : Int32)), (.int x)])) t_
      exact k_
    by_cases hc113 : (8303 : Int32) < x
    · rw [show F2_109 x = F2_118 x from if_pos hc113]
      refine Go.via (B := s₁.setTop (mkF m 118 #[.val (.int x)] [])) (fun t_ k_ => XS.icmpYes X0.here hx rfl (pc0 := 113) (pc' := 118) rfl (hb hby d2_113) rfl ((tlt hc113).2.2.1) (by decide) (by decide) k_) ?_
      exact t118
    · rw [show F2_109 x = F2_116 x from if_neg hc113]
      refine Go.via (B := s₁.setTop (mkF m 116 #[.val (.int x)] [])) (fun t_ k_ => XS.icmpNo X0.here hx rfl (hb hby d2_113) rfl ((flt hc113).2.2.1) k_) ?_
      exact t116
  have t102 : Go p.tables e below (PQ s below (fun v_ h_ L_ => v_ = some (.int (F2_102 x)) ∧ Fr n0 L_ ∧ h_ = h0) 0 0) (s₁.setTop (mkF m 102 #[.val (.int x)] [])) := by
    refine Go.via (B := s₁.setTop (mkF m 106 #[.val (.int x)] [(.int (8206 : Int32)), (.int x)])) (fun t_ k_ => ?_) ?_
    · show Steps p.tables e below (s₁.setTop (mkF m 102 #[.val (.int x)] [])) t_
      refine XS.iloadN X0.here hx rfl (hb hby d2_102) rfl ?_
      show Steps p.tables e below (s₁.setTop (mkF m 103 #[.val (.int x)] [(.int x)])) t_
      refine XS.sipush X0.here hx rfl (hb hby d2_103) ?_
      show Steps p.tables e below (s₁.setTop (mkF m 106 #[.val (.int x)] [(.int (8206 : Int32)), (.int x)])) t_
      exact k_
    by_cases hc106 : x < (8206 : Int32)
    · rw [show F2_102 x = F2_118 x from if_pos hc106]
      refine Go.via (B := s₁.setTop (mkF m 118 #[.val (.int x)] [])) (fun t_ k_ => XS.icmpYes X0.here hx rfl (pc0 := 106) (pc' := 118) rfl (hb hby d2_106) rfl ((tlt hc106).1) (by decide) (by decide) k_) ?_
      exact t118
    · rw [show F2_102 x = F2_109 x from if_neg hc106]
      refine Go.via (B := s₁.setTop (mkF m 109 #[.val (.int x)] [])) (fun t_ k_ => XS.icmpNo X0.here hx rfl (hb hby d2_106) rfl ((flt hc106).1) k_) ?_
      exact t109
  have t100 : Go p.tables e below (PQ s below (fun v_ h_ L_ => v_ = some (.int (F2_100 x)) ∧ Fr n0 L_ ∧ h_ = h0) 0 0) (s₁.setTop (mkF m 100 #[.val (.int x)] [])) := by
    refine Go.via (B := s₁.setTop (mkF m 101 #[.val (.int x)] [(.int (1 : Int32))])) (fun t_ k_ => ?_) ?_
    · show Steps p.tables e below (s₁.setTop (mkF m 100 #[.val (.int x)] [])) t_
      refine XS.iconst X0.here hx rfl (hb hby d2_100) ?_
      show Steps p.tables e below (s₁.setTop (mkF m 101 #[.val (.int x)] [(.int (1 : Int32))])) t_
      exact k_
    exact Go.leave X0 hlk (v := (some (.int (1 : Int32)))) (fun h => by rw [hrt] at h; cases h) (fun fs hr => retN X0 hx (t := .boolean) hrt (by simp) (hb hby d2_101) hr) (by decide) (by decide) (⟨rfl, N0, e0⟩)
  have t93 : Go p.tables e below (PQ s below (fun v_ h_ L_ => v_ = some (.int (F2_93 x)) ∧ Fr n0 L_ ∧ h_ = h0) 0 0) (s₁.setTop (mkF m 93 #[.val (.int x)] [])) := by
    refine Go.via (B := s₁.setTop (mkF m 97 #[.val (.int x)] [(.int (8203 : Int32)), (.int x)])) (fun t_ k_ => ?_) ?_
    · show Steps p.tables e below (s₁.setTop (mkF m 93 #[.val (.int x)] [])) t_
      refine XS.iloadN X0.here hx rfl (hb hby d2_93) rfl ?_
      show Steps p.tables e below (s₁.setTop (mkF m 94 #[.val (.int x)] [(.int x)])) t_
      refine XS.sipush X0.here hx rfl (hb hby d2_94) ?_
      show Steps p.tables e below (s₁.setTop (mkF m 97 #[.val (.int x)] [(.int (8203 : Int32)), (.int x)])) t_
      exact k_
    by_cases hc97 : (8203 : Int32) < x
    · rw [show F2_93 x = F2_102 x from if_pos hc97]
      refine Go.via (B := s₁.setTop (mkF m 102 #[.val (.int x)] [])) (fun t_ k_ => XS.icmpYes X0.here hx rfl (pc0 := 97) (pc' := 102) rfl (hb hby d2_97) rfl ((tlt hc97).2.2.1) (by decide) (by decide) k_) ?_
      exact t102
    · rw [show F2_93 x = F2_100 x from if_neg hc97]
      refine Go.via (B := s₁.setTop (mkF m 100 #[.val (.int x)] [])) (fun t_ k_ => XS.icmpNo X0.here hx rfl (hb hby d2_97) rfl ((flt hc97).2.2.1) k_) ?_
      exact t100
  have t86 : Go p.tables e below (PQ s below (fun v_ h_ L_ => v_ = some (.int (F2_86 x)) ∧ Fr n0 L_ ∧ h_ = h0) 0 0) (s₁.setTop (mkF m 86 #[.val (.int x)] [])) := by
    refine Go.via (B := s₁.setTop (mkF m 90 #[.val (.int x)] [(.int (8192 : Int32)), (.int x)])) (fun t_ k_ => ?_) ?_
    · show Steps p.tables e below (s₁.setTop (mkF m 86 #[.val (.int x)] [])) t_
      refine XS.iloadN X0.here hx rfl (hb hby d2_86) rfl ?_
      show Steps p.tables e below (s₁.setTop (mkF m 87 #[.val (.int x)] [(.int x)])) t_
      refine XS.sipush X0.here hx rfl (hb hby d2_87) ?_
      show Steps p.tables e below (s₁.setTop (mkF m 90 #[.val (.int x)] [(.int (8192 : Int32)), (.int x)])) t_
      exact k_
    by_cases hc90 : x < (8192 : Int32)
    · rw [show F2_86 x = F2_102 x from if_pos hc90]
      refine Go.via (B := s₁.setTop (mkF m 102 #[.val (.int x)] [])) (fun t_ k_ => XS.icmpYes X0.here hx rfl (pc0 := 90) (pc' := 102) rfl (hb hby d2_90) rfl ((tlt hc90).1) (by decide) (by decide) k_) ?_
      exact t102
    · rw [show F2_86 x = F2_93 x from if_neg hc90]
      refine Go.via (B := s₁.setTop (mkF m 93 #[.val (.int x)] [])) (fun t_ k_ => XS.icmpNo X0.here hx rfl (hb hby d2_90) rfl ((flt hc90).1) k_) ?_
      exact t93
  have t84 : Go p.tables e below (PQ s below (fun v_ h_ L_ => v_ = some (.int (F2_84 x)) ∧ Fr n0 L_ ∧ h_ = h0) 0 0) (s₁.setTop (mkF m 84 #[.val (.int x)] [])) := by
    refine Go.via (B := s₁.setTop (mkF m 85 #[.val (.int x)] [(.int (1 : Int32))])) (fun t_ k_ => ?_) ?_
    · show Steps p.tables e below (s₁.setTop (mkF m 84 #[.val (.int x)] [])) t_
      refine XS.iconst X0.here hx rfl (hb hby d2_84) ?_
      show Steps p.tables e below (s₁.setTop (mkF m 85 #[.val (.int x)] [(.int (1 : Int32))])) t_
      exact k_
    exact Go.leave X0 hlk (v := (some (.int (1 : Int32)))) (fun h => by rw [hrt] at h; cases h) (fun fs hr => retN X0 hx (t := .boolean) hrt (by simp) (hb hby d2_85) hr) (by decide) (by decide) (⟨rfl, N0, e0⟩)
  have t77 : Go p.tables e below (PQ s below (fun v_ h_ L_ => v_ = some (.int (F2_77 x)) ∧ Fr n0 L_ ∧ h_ = h0) 0 0) (s₁.setTop (mkF m 77 #[.val (.int x)] [])) := by
    refine Go.via (B := s₁.setTop (mkF m 81 #[.val (.int x)] [(.int (894 : Int32)), (.int x)])) (fun t_ k_ => ?_) ?_
    · show Steps p.tables e below (s₁.setTop (mkF m 77 #[.val (.int x)] [])) t_
      refine XS.iloadN X0.here hx rfl (hb hby d2_77) rfl ?_
      show Steps p.tables e below (s₁.setTop (mkF m 78 #[.val (.int x)] [(.int x)])) t_
      refine XS.sipush X0.here hx rfl (hb hby d2_78) ?_
      show Steps p.tables e below (s₁.setTop (mkF m 81 #[.val (.int x)] [(.int (894 : Int32)), (.int x)])) t_
      exact k_
    by_cases hc81 : x = (894 : Int32)
    · rw [show F2_77 x = F2_84 x from if_pos hc81]
      refine Go.via (B := s₁.setTop (mkF m 84 #[.val (.int x)] [])) (fun t_ k_ => XS.icmpNo X0.here hx rfl (hb hby d2_81) rfl ((teq hc81).2) k_) ?_
      exact t84
    · rw [show F2_77 x = F2_86 x from if_neg hc81]
      refine Go.via (B := s₁.setTop (mkF m 86 #[.val (.int x)] [])) (fun t_ k_ => XS.icmpYes X0.here hx rfl (pc0 := 81) (pc' := 86) rfl (hb hby d2_81) rfl ((feq hc81).2) (by decide) (by decide) k_) ?_
      exact t86
  have t75 : Go p.tables e below (PQ s below (fun v_ h_ L_ => v_ = some (.int (F2_75 x)) ∧ Fr n0 L_ ∧ h_ = h0) 0 0) (s₁.setTop (mkF m 75 #[.val (.int x)] [])) := by
    refine Go.via (B := s₁.setTop (mkF m 76 #[.val (.int x)] [(.int (1 : Int32))])) (fun t_ k_ => ?_) ?_
    · show Steps p.tables e below (s₁.setTop (mkF m 75 #[.val (.int x)] [])) t_
      refine XS.iconst X0.here hx rfl (hb hby d2_75) ?_
      show Steps p.tables e below (s₁.setTop (mkF m 76 #[.val (.int x)] [(.int (1 : Int32))])) t_
      exact k_
    exact Go.leave X0 hlk (v := (some (.int (1 : Int32)))) (fun h => by rw [hrt] at h; cases h) (fun fs hr => retN X0 hx (t := .boolean) hrt (by simp) (hb hby d2_76) hr) (by decide) (by decide) (⟨rfl, N0, e0⟩)
  have t68 : Go p.tables e below (PQ s below (fun v_ h_ L_ => v_ = some (.int (F2_68 x)) ∧ Fr n0 L_ ∧ h_ = h0) 0 0) (s₁.setTop (mkF m 68 #[.val (.int x)] [])) := by
    refine Go.via (B := s₁.setTop (mkF m 72 #[.val (.int x)] [(.int (879 : Int32)), (.int x)])) (fun t_ k_ => ?_) ?_
    · show Steps p.tables e below (s₁.setTop (mkF m 68 #[.val (.int x)] [])) t_
      refine XS.iloadN X0.here hx rfl (hb hby d2_68) rfl ?_
      show Steps p.tables e below (s₁.setTop (mkF m 69 #[.val (.int x)] [(.int x)])) t_
      refine XS.sipush X0.here hx rfl (hb hby d2_69) ?_
      show Steps p.tables e below (s₁.setTop (mkF m 72 #[.val (.int x)] [(.int (879 : Int32)), (.int x)])) t_
      exact k_
    by_cases hc72 : (879 : Int32) < x
    · rw [show F2_68 x = F2_77 x from if_pos hc72]
      refine Go.via (B := s₁.setTop (mkF m 77 #[.val (.int x)] [])) (fun t_ k_ => XS.icmpYes X0.here hx rfl (pc0 := 72) (pc' := 77) rfl (hb hby d2_72) rfl ((tlt hc72).2.2.1) (by decide) (by decide) k_) ?_
      exact t77
    · rw [show F2_68 x = F2_75 x from if_neg hc72]
      refine Go.via (B := s₁.setTop (mkF m 75 #[.val (.int x)] [])) (fun t_ k_ => XS.icmpNo X0.here hx rfl (hb hby d2_72) rfl ((flt hc72).2.2.1) k_) ?_
      exact t75
  have t61 : Go p.tables e below (PQ s below (fun v_ h_ L_ => v_ = some (.int (F2_61 x)) ∧ Fr n0 L_ ∧ h_ = h0) 0 0) (s₁.setTop (mkF m 61 #[.val (.int x)] [])) := by
    refine Go.via (B := s₁.setTop (mkF m 65 #[.val (.int x)] [(.int (768 : Int32)), (.int x)])) (fun t_ k_ => ?_) ?_
    · show Steps p.tables e below (s₁.setTop (mkF m 61 #[.val (.int x)] [])) t_
      refine XS.iloadN X0.here hx rfl (hb hby d2_61) rfl ?_
      show Steps p.tables e below (s₁.setTop (mkF m 62 #[.val (.int x)] [(.int x)])) t_
      refine XS.sipush X0.here hx rfl (hb hby d2_62) ?_
      show Steps p.tables e below (s₁.setTop (mkF m 65 #[.val (.int x)] [(.int (768 : Int32)), (.int x)])) t_
      exact k_
    by_cases hc65 : x < (768 : Int32)
    · rw [show F2_61 x = F2_77 x from if_pos hc65]
      refine Go.via (B := s₁.setTop (mkF m 77 #[.val (.int x)] [])) (fun t_ k_ => XS.icmpYes X0.here hx rfl (pc0 := 65) (pc' := 77) rfl (hb hby d2_65) rfl ((tlt hc65).1) (by decide) (by decide) k_) ?_
      exact t77
    · rw [show F2_61 x = F2_68 x from if_neg hc65]
      refine Go.via (B := s₁.setTop (mkF m 68 #[.val (.int x)] [])) (fun t_ k_ => XS.icmpNo X0.here hx rfl (hb hby d2_65) rfl ((flt hc65).1) k_) ?_
      exact t68
  have t59 : Go p.tables e below (PQ s below (fun v_ h_ L_ => v_ = some (.int (F2_59 x)) ∧ Fr n0 L_ ∧ h_ = h0) 0 0) (s₁.setTop (mkF m 59 #[.val (.int x)] [])) := by
    refine Go.via (B := s₁.setTop (mkF m 60 #[.val (.int x)] [(.int (1 : Int32))])) (fun t_ k_ => ?_) ?_
    · show Steps p.tables e below (s₁.setTop (mkF m 59 #[.val (.int x)] [])) t_
      refine XS.iconst X0.here hx rfl (hb hby d2_59) ?_
      show Steps p.tables e below (s₁.setTop (mkF m 60 #[.val (.int x)] [(.int (1 : Int32))])) t_
      exact k_
    exact Go.leave X0 hlk (v := (some (.int (1 : Int32)))) (fun h => by rw [hrt] at h; cases h) (fun fs hr => retN X0 hx (t := .boolean) hrt (by simp) (hb hby d2_60) hr) (by decide) (by decide) (⟨rfl, N0, e0⟩)
  have t52 : Go p.tables e below (PQ s below (fun v_ h_ L_ => v_ = some (.int (F2_52 x)) ∧ Fr n0 L_ ∧ h_ = h0) 0 0) (s₁.setTop (mkF m 52 #[.val (.int x)] [])) := by
    refine Go.via (B := s₁.setTop (mkF m 56 #[.val (.int x)] [(.int (247 : Int32)), (.int x)])) (fun t_ k_ => ?_) ?_
    · show Steps p.tables e below (s₁.setTop (mkF m 52 #[.val (.int x)] [])) t_
      refine XS.iloadN X0.here hx rfl (hb hby d2_52) rfl ?_
      show Steps p.tables e below (s₁.setTop (mkF m 53 #[.val (.int x)] [(.int x)])) t_
      refine XS.sipush X0.here hx rfl (hb hby d2_53) ?_
      show Steps p.tables e below (s₁.setTop (mkF m 56 #[.val (.int x)] [(.int (247 : Int32)), (.int x)])) t_
      exact k_
    by_cases hc56 : x = (247 : Int32)
    · rw [show F2_52 x = F2_59 x from if_pos hc56]
      refine Go.via (B := s₁.setTop (mkF m 59 #[.val (.int x)] [])) (fun t_ k_ => XS.icmpNo X0.here hx rfl (hb hby d2_56) rfl ((teq hc56).2) k_) ?_
      exact t59
    · rw [show F2_52 x = F2_61 x from if_neg hc56]
      refine Go.via (B := s₁.setTop (mkF m 61 #[.val (.int x)] [])) (fun t_ k_ => XS.icmpYes X0.here hx rfl (pc0 := 56) (pc' := 61) rfl (hb hby d2_56) rfl ((feq hc56).2) (by decide) (by decide) k_) ?_
      exact t61
  have t45 : Go p.tables e below (PQ s below (fun v_ h_ L_ => v_ = some (.int (F2_45 x)) ∧ Fr n0 L_ ∧ h_ = h0) 0 0) (s₁.setTop (mkF m 45 #[.val (.int x)] [])) := by
    refine Go.via (B := s₁.setTop (mkF m 49 #[.val (.int x)] [(.int (215 : Int32)), (.int x)])) (fun t_ k_ => ?_) ?_
    · show Steps p.tables e below (s₁.setTop (mkF m 45 #[.val (.int x)] [])) t_
      refine XS.iloadN X0.here hx rfl (hb hby d2_45) rfl ?_
      show Steps p.tables e below (s₁.setTop (mkF m 46 #[.val (.int x)] [(.int x)])) t_
      refine XS.sipush X0.here hx rfl (hb hby d2_46) ?_
      show Steps p.tables e below (s₁.setTop (mkF m 49 #[.val (.int x)] [(.int (215 : Int32)), (.int x)])) t_
      exact k_
    by_cases hc49 : x = (215 : Int32)
    · rw [show F2_45 x = F2_59 x from if_pos hc49]
      refine Go.via (B := s₁.setTop (mkF m 59 #[.val (.int x)] [])) (fun t_ k_ => XS.icmpYes X0.here hx rfl (pc0 := 49) (pc' := 59) rfl (hb hby d2_49) rfl ((teq hc49).1) (by decide) (by decide) k_) ?_
      exact t59
    · rw [show F2_45 x = F2_52 x from if_neg hc49]
      refine Go.via (B := s₁.setTop (mkF m 52 #[.val (.int x)] [])) (fun t_ k_ => XS.icmpNo X0.here hx rfl (hb hby d2_49) rfl ((feq hc49).1) k_) ?_
      exact t52
  have t43 : Go p.tables e below (PQ s below (fun v_ h_ L_ => v_ = some (.int (F2_43 x)) ∧ Fr n0 L_ ∧ h_ = h0) 0 0) (s₁.setTop (mkF m 43 #[.val (.int x)] [])) := by
    refine Go.via (B := s₁.setTop (mkF m 44 #[.val (.int x)] [(.int (1 : Int32))])) (fun t_ k_ => ?_) ?_
    · show Steps p.tables e below (s₁.setTop (mkF m 43 #[.val (.int x)] [])) t_
      refine XS.iconst X0.here hx rfl (hb hby d2_43) ?_
      show Steps p.tables e below (s₁.setTop (mkF m 44 #[.val (.int x)] [(.int (1 : Int32))])) t_
      exact k_
    exact Go.leave X0 hlk (v := (some (.int (1 : Int32)))) (fun h => by rw [hrt] at h; cases h) (fun fs hr => retN X0 hx (t := .boolean) hrt (by simp) (hb hby d2_44) hr) (by decide) (by decide) (⟨rfl, N0, e0⟩)
  have t36 : Go p.tables e below (PQ s below (fun v_ h_ L_ => v_ = some (.int (F2_36 x)) ∧ Fr n0 L_ ∧ h_ = h0) 0 0) (s₁.setTop (mkF m 36 #[.val (.int x)] [])) := by
    refine Go.via (B := s₁.setTop (mkF m 40 #[.val (.int x)] [(.int (191 : Int32)), (.int x)])) (fun t_ k_ => ?_) ?_
    · show Steps p.tables e below (s₁.setTop (mkF m 36 #[.val (.int x)] [])) t_
      refine XS.iloadN X0.here hx rfl (hb hby d2_36) rfl ?_
      show Steps p.tables e below (s₁.setTop (mkF m 37 #[.val (.int x)] [(.int x)])) t_
      refine XS.sipush X0.here hx rfl (hb hby d2_37) ?_
      show Steps p.tables e below (s₁.setTop (mkF m 40 #[.val (.int x)] [(.int (191 : Int32)), (.int x)])) t_
      exact k_
    by_cases hc40 : (191 : Int32) < x
    · rw [show F2_36 x = F2_45 x from if_pos hc40]
      refine Go.via (B := s₁.setTop (mkF m 45 #[.val (.int x)] [])) (fun t_ k_ => XS.icmpYes X0.here hx rfl (pc0 := 40) (pc' := 45) rfl (hb hby d2_40) rfl ((tlt hc40).2.2.1) (by decide) (by decide) k_) ?_
      exact t45
    · rw [show F2_36 x = F2_43 x from if_neg hc40]
      refine Go.via (B := s₁.setTop (mkF m 43 #[.val (.int x)] [])) (fun t_ k_ => XS.icmpNo X0.here hx rfl (hb hby d2_40) rfl ((flt hc40).2.2.1) k_) ?_
      exact t43
  have t30 : Go p.tables e below (PQ s below (fun v_ h_ L_ => v_ = some (.int (F2_30 x)) ∧ Fr n0 L_ ∧ h_ = h0) 0 0) (s₁.setTop (mkF m 30 #[.val (.int x)] [])) := by
    refine Go.via (B := s₁.setTop (mkF m 33 #[.val (.int x)] [(.int (123 : Int32)), (.int x)])) (fun t_ k_ => ?_) ?_
    · show Steps p.tables e below (s₁.setTop (mkF m 30 #[.val (.int x)] [])) t_
      refine XS.iloadN X0.here hx rfl (hb hby d2_30) rfl ?_
      show Steps p.tables e below (s₁.setTop (mkF m 31 #[.val (.int x)] [(.int x)])) t_
      refine XS.bipush X0.here hx rfl (hb hby d2_31) ?_
      show Steps p.tables e below (s₁.setTop (mkF m 33 #[.val (.int x)] [(.int (123 : Int32)), (.int x)])) t_
      exact k_
    by_cases hc33 : x < (123 : Int32)
    · rw [show F2_30 x = F2_45 x from if_pos hc33]
      refine Go.via (B := s₁.setTop (mkF m 45 #[.val (.int x)] [])) (fun t_ k_ => XS.icmpYes X0.here hx rfl (pc0 := 33) (pc' := 45) rfl (hb hby d2_33) rfl ((tlt hc33).1) (by decide) (by decide) k_) ?_
      exact t45
    · rw [show F2_30 x = F2_36 x from if_neg hc33]
      refine Go.via (B := s₁.setTop (mkF m 36 #[.val (.int x)] [])) (fun t_ k_ => XS.icmpNo X0.here hx rfl (hb hby d2_33) rfl ((flt hc33).1) k_) ?_
      exact t36
  have t28 : Go p.tables e below (PQ s below (fun v_ h_ L_ => v_ = some (.int (F2_28 x)) ∧ Fr n0 L_ ∧ h_ = h0) 0 0) (s₁.setTop (mkF m 28 #[.val (.int x)] [])) := by
    refine Go.via (B := s₁.setTop (mkF m 29 #[.val (.int x)] [(.int (1 : Int32))])) (fun t_ k_ => ?_) ?_
    · show Steps p.tables e below (s₁.setTop (mkF m 28 #[.val (.int x)] [])) t_
      refine XS.iconst X0.here hx rfl (hb hby d2_28) ?_
      show Steps p.tables e below (s₁.setTop (mkF m 29 #[.val (.int x)] [(.int (1 : Int32))])) t_
      exact k_
    exact Go.leave X0 hlk (v := (some (.int (1 : Int32)))) (fun h => by rw [hrt] at h; cases h) (fun fs hr => retN X0 hx (t := .boolean) hrt (by simp) (hb hby d2_29) hr) (by decide) (by decide) (⟨rfl, N0, e0⟩)
  have t22 : Go p.tables e below (PQ s below (fun v_ h_ L_ => v_ = some (.int (F2_22 x)) ∧ Fr n0 L_ ∧ h_ = h0) 0 0) (s₁.setTop (mkF m 22 #[.val (.int x)] [])) := by
    refine Go.via (B := s₁.setTop (mkF m 25 #[.val (.int x)] [(.int (96 : Int32)), (.int x)])) (fun t_ k_ => ?_) ?_
    · show Steps p.tables e below (s₁.setTop (mkF m 22 #[.val (.int x)] [])) t_
      refine XS.iloadN X0.here hx rfl (hb hby d2_22) rfl ?_
      show Steps p.tables e below (s₁.setTop (mkF m 23 #[.val (.int x)] [(.int x)])) t_
      refine XS.bipush X0.here hx rfl (hb hby d2_23) ?_
      show Steps p.tables e below (s₁.setTop (mkF m 25 #[.val (.int x)] [(.int (96 : Int32)), (.int x)])) t_
      exact k_
    by_cases hc25 : x = (96 : Int32)
    · rw [show F2_22 x = F2_28 x from if_pos hc25]
      refine Go.via (B := s₁.setTop (mkF m 28 #[.val (.int x)] [])) (fun t_ k_ => XS.icmpNo X0.here hx rfl (hb hby d2_25) rfl ((teq hc25).2) k_) ?_
      exact t28
    · rw [show F2_22 x = F2_30 x from if_neg hc25]
      refine Go.via (B := s₁.setTop (mkF m 30 #[.val (.int x)] [])) (fun t_ k_ => XS.icmpYes X0.here hx rfl (pc0 := 25) (pc' := 30) rfl (hb hby d2_25) rfl ((feq hc25).2) (by decide) (by decide) k_) ?_
      exact t30
  have t20 : Go p.tables e below (PQ s below (fun v_ h_ L_ => v_ = some (.int (F2_20 x)) ∧ Fr n0 L_ ∧ h_ = h0) 0 0) (s₁.setTop (mkF m 20 #[.val (.int x)] [])) := by
    refine Go.via (B := s₁.setTop (mkF m 21 #[.val (.int x)] [(.int (1 : Int32))])) (fun t_ k_ => ?_) ?_
    · show Steps p.tables e below (s₁.setTop (mkF m 20 #[.val (.int x)] [])) t_
      refine XS.iconst X0.here hx rfl (hb hby d2_20) ?_
      show Steps p.tables e below (s₁.setTop (mkF m 21 #[.val (.int x)] [(.int (1 : Int32))])) t_
      exact k_
    exact Go.leave X0 hlk (v := (some (.int (1 : Int32)))) (fun h => by rw [hrt] at h; cases h) (fun fs hr => retN X0 hx (t := .boolean) hrt (by simp) (hb hby d2_21) hr) (by decide) (by decide) (⟨rfl, N0, e0⟩)
  have t14 : Go p.tables e below (PQ s below (fun v_ h_ L_ => v_ = some (.int (F2_14 x)) ∧ Fr n0 L_ ∧ h_ = h0) 0 0) (s₁.setTop (mkF m 14 #[.val (.int x)] [])) := by
    refine Go.via (B := s₁.setTop (mkF m 17 #[.val (.int x)] [(.int (94 : Int32)), (.int x)])) (fun t_ k_ => ?_) ?_
    · show Steps p.tables e below (s₁.setTop (mkF m 14 #[.val (.int x)] [])) t_
      refine XS.iloadN X0.here hx rfl (hb hby d2_14) rfl ?_
      show Steps p.tables e below (s₁.setTop (mkF m 15 #[.val (.int x)] [(.int x)])) t_
      refine XS.bipush X0.here hx rfl (hb hby d2_15) ?_
      show Steps p.tables e below (s₁.setTop (mkF m 17 #[.val (.int x)] [(.int (94 : Int32)), (.int x)])) t_
      exact k_
    by_cases hc17 : (94 : Int32) < x
    · rw [show F2_14 x = F2_22 x from if_pos hc17]
      refine Go.via (B := s₁.setTop (mkF m 22 #[.val (.int x)] [])) (fun t_ k_ => XS.icmpYes X0.here hx rfl (pc0 := 17) (pc' := 22) rfl (hb hby d2_17) rfl ((tlt hc17).2.2.1) (by decide) (by decide) k_) ?_
      exact t22
    · rw [show F2_14 x = F2_20 x from if_neg hc17]
      refine Go.via (B := s₁.setTop (mkF m 20 #[.val (.int x)] [])) (fun t_ k_ => XS.icmpNo X0.here hx rfl (hb hby d2_17) rfl ((flt hc17).2.2.1) k_) ?_
      exact t20
  have t8 : Go p.tables e below (PQ s below (fun v_ h_ L_ => v_ = some (.int (F2_8 x)) ∧ Fr n0 L_ ∧ h_ = h0) 0 0) (s₁.setTop (mkF m 8 #[.val (.int x)] [])) := by
    refine Go.via (B := s₁.setTop (mkF m 11 #[.val (.int x)] [(.int (91 : Int32)), (.int x)])) (fun t_ k_ => ?_) ?_
    · show Steps p.tables e below (s₁.setTop (mkF m 8 #[.val (.int x)] [])) t_
      refine XS.iloadN X0.here hx rfl (hb hby d2_8) rfl ?_
      show Steps p.tables e below (s₁.setTop (mkF m 9 #[.val (.int x)] [(.int x)])) t_
      refine XS.bipush X0.here hx rfl (hb hby d2_9) ?_
      show Steps p.tables e below (s₁.setTop (mkF m 11 #[.val (.int x)] [(.int (91 : Int32)), (.int x)])) t_
      exact k_
    by_cases hc11 : x < (91 : Int32)
    · rw [show F2_8 x = F2_22 x from if_pos hc11]
      refine Go.via (B := s₁.setTop (mkF m 22 #[.val (.int x)] [])) (fun t_ k_ => XS.icmpYes X0.here hx rfl (pc0 := 11) (pc' := 22) rfl (hb hby d2_11) rfl ((tlt hc11).1) (by decide) (by decide) k_) ?_
      exact t22
    · rw [show F2_8 x = F2_14 x from if_neg hc11]
      refine Go.via (B := s₁.setTop (mkF m 14 #[.val (.int x)] [])) (fun t_ k_ => XS.icmpNo X0.here hx rfl (hb hby d2_11) rfl ((flt hc11).1) k_) ?_
      exact t14
  have t6 : Go p.tables e below (PQ s below (fun v_ h_ L_ => v_ = some (.int (F2_6 x)) ∧ Fr n0 L_ ∧ h_ = h0) 0 0) (s₁.setTop (mkF m 6 #[.val (.int x)] [])) := by
    refine Go.via (B := s₁.setTop (mkF m 7 #[.val (.int x)] [(.int (1 : Int32))])) (fun t_ k_ => ?_) ?_
    · show Steps p.tables e below (s₁.setTop (mkF m 6 #[.val (.int x)] [])) t_
      refine XS.iconst X0.here hx rfl (hb hby d2_6) ?_
      show Steps p.tables e below (s₁.setTop (mkF m 7 #[.val (.int x)] [(.int (1 : Int32))])) t_
      exact k_
    exact Go.leave X0 hlk (v := (some (.int (1 : Int32)))) (fun h => by rw [hrt] at h; cases h) (fun fs hr => retN X0 hx (t := .boolean) hrt (by simp) (hb hby d2_7) hr) (by decide) (by decide) (⟨rfl, N0, e0⟩)
  have t0 : Go p.tables e below (PQ s below (fun v_ h_ L_ => v_ = some (.int (F2_0 x)) ∧ Fr n0 L_ ∧ h_ = h0) 0 0) (s₁.setTop (mkF m 0 #[.val (.int x)] [])) := by
    refine Go.via (B := s₁.setTop (mkF m 3 #[.val (.int x)] [(.int (65 : Int32)), (.int x)])) (fun t_ k_ => ?_) ?_
    · show Steps p.tables e below (s₁.setTop (mkF m 0 #[.val (.int x)] [])) t_
      refine XS.iloadN X0.here hx rfl (hb hby d2_0) rfl ?_
      show Steps p.tables e below (s₁.setTop (mkF m 1 #[.val (.int x)] [(.int x)])) t_
      refine XS.bipush X0.here hx rfl (hb hby d2_1) ?_
      show Steps p.tables e below (s₁.setTop (mkF m 3 #[.val (.int x)] [(.int (65 : Int32)), (.int x)])) t_
      exact k_
    by_cases hc3 : x < (65 : Int32)
    · rw [show F2_0 x = F2_6 x from if_pos hc3]
      refine Go.via (B := s₁.setTop (mkF m 6 #[.val (.int x)] [])) (fun t_ k_ => XS.icmpNo X0.here hx rfl (hb hby d2_3) rfl ((tlt hc3).2.1) k_) ?_
      exact t6
    · rw [show F2_0 x = F2_8 x from if_neg hc3]
      refine Go.via (B := s₁.setTop (mkF m 8 #[.val (.int x)] [])) (fun t_ k_ => XS.icmpYes X0.here hx rfl (pc0 := 3) (pc' := 8) rfl (hb hby d2_3) rfl ((flt hc3).2.1) (by decide) (by decide) k_) ?_
      exact t8
  refine Go.via (B := s₁.setTop (mkF m 0 #[.val (.int x)] [])) (fun t_ k_ => castTop (ef_2 m x) k_) ?_
  exact t0
theorem own_lt {x k : Int32} {K : Int} (e : k.toInt = K) (h : x.toInt < K) : x < k := Int32.lt_iff_toInt_lt.mpr (e ▸ h)
theorem own_nlt {x k : Int32} {K : Int} (e : k.toInt = K) (h : K ≤ x.toInt) : ¬ x < k := fun q => absurd (Int32.lt_iff_toInt_lt.mp q) (by rw [e]; omega)
theorem own_gt {x k : Int32} {K : Int} (e : k.toInt = K) (h : K < x.toInt) : k < x := Int32.lt_iff_toInt_lt.mpr (e ▸ h)
theorem own_ngt {x k : Int32} {K : Int} (e : k.toInt = K) (h : x.toInt ≤ K) : ¬ k < x := fun q => absurd (Int32.lt_iff_toInt_lt.mp q) (by rw [e]; omega)
theorem own_eq {x k : Int32} {K : Int} (e : k.toInt = K) (h : x.toInt = K) : x = k := Int32.toInt_inj.mp (h.trans e.symm)
theorem own_neq {x k : Int32} {K : Int} (e : k.toInt = K) (h : x.toInt ≠ K) : ¬ x = k := fun q => h (by rw [q, e])
theorem own_both (x : Int32) : (F1_0 x = 1 ∧ F2_0 x = 0) ∨ (F1_0 x = 0 ∧ F2_0 x = 1) := by
  by_cases h0 : x.toInt < 65
  · rw [F1_0, if_pos (own_lt (x := x) (k := 97) (K := 97) rfl (by omega)), F1_12, if_pos (own_lt (x := x) (k := 65) (K := 65) rfl (by omega)), F1_24, if_neg (own_neq (x := x) (k := 95) (K := 95) rfl (by omega)), F1_30, if_pos (own_lt (x := x) (k := 192) (K := 192) rfl (by omega)), F1_44, if_pos (own_lt (x := x) (k := 216) (K := 216) rfl (by omega)), F1_58, if_pos (own_lt (x := x) (k := 248) (K := 248) rfl (by omega)), F1_72, if_pos (own_lt (x := x) (k := 880) (K := 880) rfl (by omega)), F1_86, if_pos (own_lt (x := x) (k := 895) (K := 895) rfl (by omega)), F1_100, if_pos (own_lt (x := x) (k := 8204) (K := 8204) rfl (by omega)), F1_114, if_pos (own_lt (x := x) (k := 8304) (K := 8304) rfl (by omega)), F1_128, if_pos (own_lt (x := x) (k := 11264) (K := 11264) rfl (by omega)), F1_142, if_pos (own_lt (x := x) (k := 12289) (K := 12289) rfl (by omega)), F1_155, if_pos (own_lt (x := x) (k := 63744) (K := 63744) rfl (by omega)), F1_167, if_pos (own_lt (x := x) (k := 65008) (K := 65008) rfl (by omega)), F1_179, if_pos (own_lt (x := x) (k := 65536) (K := 65536) rfl (by omega)), F1_195, F2_0, if_pos (own_lt (x := x) (k := 65) (K := 65) rfl (by omega)), F2_6]
    first | exact Or.inl ⟨rfl, rfl⟩ | exact Or.inr ⟨rfl, rfl⟩
  by_cases h1 : x.toInt < 91
  · rw [F1_0, if_pos (own_lt (x := x) (k := 97) (K := 97) rfl (by omega)), F1_12, if_neg (own_nlt (x := x) (k := 65) (K := 65) rfl (by omega)), F1_18, if_neg (own_ngt (x := x) (k := 90) (K := 90) rfl (by omega)), F1_191, F2_0, if_neg (own_nlt (x := x) (k := 65) (K := 65) rfl (by omega)), F2_8, if_pos (own_lt (x := x) (k := 91) (K := 91) rfl (by omega)), F2_22, if_neg (own_neq (x := x) (k := 96) (K := 96) rfl (by omega)), F2_30, if_pos (own_lt (x := x) (k := 123) (K := 123) rfl (by omega)), F2_45, if_neg (own_neq (x := x) (k := 215) (K := 215) rfl (by omega)), F2_52, if_neg (own_neq (x := x) (k := 247) (K := 247) rfl (by omega)), F2_61, if_pos (own_lt (x := x) (k := 768) (K := 768) rfl (by omega)), F2_77, if_neg (own_neq (x := x) (k := 894) (K := 894) rfl (by omega)), F2_86, if_pos (own_lt (x := x) (k := 8192) (K := 8192) rfl (by omega)), F2_102, if_pos (own_lt (x := x) (k := 8206) (K := 8206) rfl (by omega)), F2_118, if_pos (own_lt (x := x) (k := 8592) (K := 8592) rfl (by omega)), F2_134, if_pos (own_lt (x := x) (k := 12272) (K := 12272) rfl (by omega)), F2_150, if_pos (own_lt (x := x) (k := 55296) (K := 55296) rfl (by omega)), F2_164, if_pos (own_lt (x := x) (k := 64976) (K := 64976) rfl (by omega)), F2_178, if_neg (own_neq (x := x) (k := 65534) (K := 65534) rfl (by omega)), F2_184, if_neg (own_neq (x := x) (k := 65535) (K := 65535) rfl (by omega)), F2_192, if_pos (own_lt (x := x) (k := 983040) (K := 983040) rfl (by omega)), F2_202]
    first | exact Or.inl ⟨rfl, rfl⟩ | exact Or.inr ⟨rfl, rfl⟩
  by_cases h2 : x.toInt < 95
  · rw [F1_0, if_pos (own_lt (x := x) (k := 97) (K := 97) rfl (by omega)), F1_12, if_neg (own_nlt (x := x) (k := 65) (K := 65) rfl (by omega)), F1_18, if_pos (own_gt (x := x) (k := 90) (K := 90) rfl (by omega)), F1_24, if_neg (own_neq (x := x) (k := 95) (K := 95) rfl (by omega)), F1_30, if_pos (own_lt (x := x) (k := 192) (K := 192) rfl (by omega)), F1_44, if_pos (own_lt (x := x) (k := 216) (K := 216) rfl (by omega)), F1_58, if_pos (own_lt (x := x) (k := 248) (K := 248) rfl (by omega)), F1_72, if_pos (own_lt (x := x) (k := 880) (K := 880) rfl (by omega)), F1_86, if_pos (own_lt (x := x) (k := 895) (K := 895) rfl (by omega)), F1_100, if_pos (own_lt (x := x) (k := 8204) (K := 8204) rfl (by omega)), F1_114, if_pos (own_lt (x := x) (k := 8304) (K := 8304) rfl (by omega)), F1_128, if_pos (own_lt (x := x) (k := 11264) (K := 11264) rfl (by omega)), F1_142, if_pos (own_lt (x := x) (k := 12289) (K := 12289) rfl (by omega)), F1_155, if_pos (own_lt (x := x) (k := 63744) (K := 63744) rfl (by omega)), F1_167, if_pos (own_lt (x := x) (k := 65008) (K := 65008) rfl (by omega)), F1_179, if_pos (own_lt (x := x) (k := 65536) (K := 65536) rfl (by omega)), F1_195, F2_0, if_neg (own_nlt (x := x) (k := 65) (K := 65) rfl (by omega)), F2_8, if_neg (own_nlt (x := x) (k := 91) (K := 91) rfl (by omega)), F2_14, if_neg (own_ngt (x := x) (k := 94) (K := 94) rfl (by omega)), F2_20]
    first | exact Or.inl ⟨rfl, rfl⟩ | exact Or.inr ⟨rfl, rfl⟩
  by_cases h3 : x.toInt < 96
  · rw [F1_0, if_pos (own_lt (x := x) (k := 97) (K := 97) rfl (by omega)), F1_12, if_neg (own_nlt (x := x) (k := 65) (K := 65) rfl (by omega)), F1_18, if_pos (own_gt (x := x) (k := 90) (K := 90) rfl (by omega)), F1_24, if_pos (own_eq (x := x) (k := 95) (K := 95) rfl (by omega)), F1_191, F2_0, if_neg (own_nlt (x := x) (k := 65) (K := 65) rfl (by omega)), F2_8, if_neg (own_nlt (x := x) (k := 91) (K := 91) rfl (by omega)), F2_14, if_pos (own_gt (x := x) (k := 94) (K := 94) rfl (by omega)), F2_22, if_neg (own_neq (x := x) (k := 96) (K := 96) rfl (by omega)), F2_30, if_pos (own_lt (x := x) (k := 123) (K := 123) rfl (by omega)), F2_45, if_neg (own_neq (x := x) (k := 215) (K := 215) rfl (by omega)), F2_52, if_neg (own_neq (x := x) (k := 247) (K := 247) rfl (by omega)), F2_61, if_pos (own_lt (x := x) (k := 768) (K := 768) rfl (by omega)), F2_77, if_neg (own_neq (x := x) (k := 894) (K := 894) rfl (by omega)), F2_86, if_pos (own_lt (x := x) (k := 8192) (K := 8192) rfl (by omega)), F2_102, if_pos (own_lt (x := x) (k := 8206) (K := 8206) rfl (by omega)), F2_118, if_pos (own_lt (x := x) (k := 8592) (K := 8592) rfl (by omega)), F2_134, if_pos (own_lt (x := x) (k := 12272) (K := 12272) rfl (by omega)), F2_150, if_pos (own_lt (x := x) (k := 55296) (K := 55296) rfl (by omega)), F2_164, if_pos (own_lt (x := x) (k := 64976) (K := 64976) rfl (by omega)), F2_178, if_neg (own_neq (x := x) (k := 65534) (K := 65534) rfl (by omega)), F2_184, if_neg (own_neq (x := x) (k := 65535) (K := 65535) rfl (by omega)), F2_192, if_pos (own_lt (x := x) (k := 983040) (K := 983040) rfl (by omega)), F2_202]
    first | exact Or.inl ⟨rfl, rfl⟩ | exact Or.inr ⟨rfl, rfl⟩
  by_cases h4 : x.toInt < 97
  · rw [F1_0, if_pos (own_lt (x := x) (k := 97) (K := 97) rfl (by omega)), F1_12, if_neg (own_nlt (x := x) (k := 65) (K := 65) rfl (by omega)), F1_18, if_pos (own_gt (x := x) (k := 90) (K := 90) rfl (by omega)), F1_24, if_neg (own_neq (x := x) (k := 95) (K := 95) rfl (by omega)), F1_30, if_pos (own_lt (x := x) (k := 192) (K := 192) rfl (by omega)), F1_44, if_pos (own_lt (x := x) (k := 216) (K := 216) rfl (by omega)), F1_58, if_pos (own_lt (x := x) (k := 248) (K := 248) rfl (by omega)), F1_72, if_pos (own_lt (x := x) (k := 880) (K := 880) rfl (by omega)), F1_86, if_pos (own_lt (x := x) (k := 895) (K := 895) rfl (by omega)), F1_100, if_pos (own_lt (x := x) (k := 8204) (K := 8204) rfl (by omega)), F1_114, if_pos (own_lt (x := x) (k := 8304) (K := 8304) rfl (by omega)), F1_128, if_pos (own_lt (x := x) (k := 11264) (K := 11264) rfl (by omega)), F1_142, if_pos (own_lt (x := x) (k := 12289) (K := 12289) rfl (by omega)), F1_155, if_pos (own_lt (x := x) (k := 63744) (K := 63744) rfl (by omega)), F1_167, if_pos (own_lt (x := x) (k := 65008) (K := 65008) rfl (by omega)), F1_179, if_pos (own_lt (x := x) (k := 65536) (K := 65536) rfl (by omega)), F1_195, F2_0, if_neg (own_nlt (x := x) (k := 65) (K := 65) rfl (by omega)), F2_8, if_neg (own_nlt (x := x) (k := 91) (K := 91) rfl (by omega)), F2_14, if_pos (own_gt (x := x) (k := 94) (K := 94) rfl (by omega)), F2_22, if_pos (own_eq (x := x) (k := 96) (K := 96) rfl (by omega)), F2_28]
    first | exact Or.inl ⟨rfl, rfl⟩ | exact Or.inr ⟨rfl, rfl⟩
  by_cases h5 : x.toInt < 123
  · rw [F1_0, if_neg (own_nlt (x := x) (k := 97) (K := 97) rfl (by omega)), F1_6, if_neg (own_ngt (x := x) (k := 122) (K := 122) rfl (by omega)), F1_191, F2_0, if_neg (own_nlt (x := x) (k := 65) (K := 65) rfl (by omega)), F2_8, if_neg (own_nlt (x := x) (k := 91) (K := 91) rfl (by omega)), F2_14, if_pos (own_gt (x := x) (k := 94) (K := 94) rfl (by omega)), F2_22, if_neg (own_neq (x := x) (k := 96) (K := 96) rfl (by omega)), F2_30, if_pos (own_lt (x := x) (k := 123) (K := 123) rfl (by omega)), F2_45, if_neg (own_neq (x := x) (k := 215) (K := 215) rfl (by omega)), F2_52, if_neg (own_neq (x := x) (k := 247) (K := 247) rfl (by omega)), F2_61, if_pos (own_lt (x := x) (k := 768) (K := 768) rfl (by omega)), F2_77, if_neg (own_neq (x := x) (k := 894) (K := 894) rfl (by omega)), F2_86, if_pos (own_lt (x := x) (k := 8192) (K := 8192) rfl (by omega)), F2_102, if_pos (own_lt (x := x) (k := 8206) (K := 8206) rfl (by omega)), F2_118, if_pos (own_lt (x := x) (k := 8592) (K := 8592) rfl (by omega)), F2_134, if_pos (own_lt (x := x) (k := 12272) (K := 12272) rfl (by omega)), F2_150, if_pos (own_lt (x := x) (k := 55296) (K := 55296) rfl (by omega)), F2_164, if_pos (own_lt (x := x) (k := 64976) (K := 64976) rfl (by omega)), F2_178, if_neg (own_neq (x := x) (k := 65534) (K := 65534) rfl (by omega)), F2_184, if_neg (own_neq (x := x) (k := 65535) (K := 65535) rfl (by omega)), F2_192, if_pos (own_lt (x := x) (k := 983040) (K := 983040) rfl (by omega)), F2_202]
    first | exact Or.inl ⟨rfl, rfl⟩ | exact Or.inr ⟨rfl, rfl⟩
  by_cases h6 : x.toInt < 192
  · rw [F1_0, if_neg (own_nlt (x := x) (k := 97) (K := 97) rfl (by omega)), F1_6, if_pos (own_gt (x := x) (k := 122) (K := 122) rfl (by omega)), F1_12, if_neg (own_nlt (x := x) (k := 65) (K := 65) rfl (by omega)), F1_18, if_pos (own_gt (x := x) (k := 90) (K := 90) rfl (by omega)), F1_24, if_neg (own_neq (x := x) (k := 95) (K := 95) rfl (by omega)), F1_30, if_pos (own_lt (x := x) (k := 192) (K := 192) rfl (by omega)), F1_44, if_pos (own_lt (x := x) (k := 216) (K := 216) rfl (by omega)), F1_58, if_pos (own_lt (x := x) (k := 248) (K := 248) rfl (by omega)), F1_72, if_pos (own_lt (x := x) (k := 880) (K := 880) rfl (by omega)), F1_86, if_pos (own_lt (x := x) (k := 895) (K := 895) rfl (by omega)), F1_100, if_pos (own_lt (x := x) (k := 8204) (K := 8204) rfl (by omega)), F1_114, if_pos (own_lt (x := x) (k := 8304) (K := 8304) rfl (by omega)), F1_128, if_pos (own_lt (x := x) (k := 11264) (K := 11264) rfl (by omega)), F1_142, if_pos (own_lt (x := x) (k := 12289) (K := 12289) rfl (by omega)), F1_155, if_pos (own_lt (x := x) (k := 63744) (K := 63744) rfl (by omega)), F1_167, if_pos (own_lt (x := x) (k := 65008) (K := 65008) rfl (by omega)), F1_179, if_pos (own_lt (x := x) (k := 65536) (K := 65536) rfl (by omega)), F1_195, F2_0, if_neg (own_nlt (x := x) (k := 65) (K := 65) rfl (by omega)), F2_8, if_neg (own_nlt (x := x) (k := 91) (K := 91) rfl (by omega)), F2_14, if_pos (own_gt (x := x) (k := 94) (K := 94) rfl (by omega)), F2_22, if_neg (own_neq (x := x) (k := 96) (K := 96) rfl (by omega)), F2_30, if_neg (own_nlt (x := x) (k := 123) (K := 123) rfl (by omega)), F2_36, if_neg (own_ngt (x := x) (k := 191) (K := 191) rfl (by omega)), F2_43]
    first | exact Or.inl ⟨rfl, rfl⟩ | exact Or.inr ⟨rfl, rfl⟩
  by_cases h7 : x.toInt < 215
  · rw [F1_0, if_neg (own_nlt (x := x) (k := 97) (K := 97) rfl (by omega)), F1_6, if_pos (own_gt (x := x) (k := 122) (K := 122) rfl (by omega)), F1_12, if_neg (own_nlt (x := x) (k := 65) (K := 65) rfl (by omega)), F1_18, if_pos (own_gt (x := x) (k := 90) (K := 90) rfl (by omega)), F1_24, if_neg (own_neq (x := x) (k := 95) (K := 95) rfl (by omega)), F1_30, if_neg (own_nlt (x := x) (k := 192) (K := 192) rfl (by omega)), F1_37, if_neg (own_ngt (x := x) (k := 214) (K := 214) rfl (by omega)), F1_191, F2_0, if_neg (own_nlt (x := x) (k := 65) (K := 65) rfl (by omega)), F2_8, if_neg (own_nlt (x := x) (k := 91) (K := 91) rfl (by omega)), F2_14, if_pos (own_gt (x := x) (k := 94) (K := 94) rfl (by omega)), F2_22, if_neg (own_neq (x := x) (k := 96) (K := 96) rfl (by omega)), F2_30, if_neg (own_nlt (x := x) (k := 123) (K := 123) rfl (by omega)), F2_36, if_pos (own_gt (x := x) (k := 191) (K := 191) rfl (by omega)), F2_45, if_neg (own_neq (x := x) (k := 215) (K := 215) rfl (by omega)), F2_52, if_neg (own_neq (x := x) (k := 247) (K := 247) rfl (by omega)), F2_61, if_pos (own_lt (x := x) (k := 768) (K := 768) rfl (by omega)), F2_77, if_neg (own_neq (x := x) (k := 894) (K := 894) rfl (by omega)), F2_86, if_pos (own_lt (x := x) (k := 8192) (K := 8192) rfl (by omega)), F2_102, if_pos (own_lt (x := x) (k := 8206) (K := 8206) rfl (by omega)), F2_118, if_pos (own_lt (x := x) (k := 8592) (K := 8592) rfl (by omega)), F2_134, if_pos (own_lt (x := x) (k := 12272) (K := 12272) rfl (by omega)), F2_150, if_pos (own_lt (x := x) (k := 55296) (K := 55296) rfl (by omega)), F2_164, if_pos (own_lt (x := x) (k := 64976) (K := 64976) rfl (by omega)), F2_178, if_neg (own_neq (x := x) (k := 65534) (K := 65534) rfl (by omega)), F2_184, if_neg (own_neq (x := x) (k := 65535) (K := 65535) rfl (by omega)), F2_192, if_pos (own_lt (x := x) (k := 983040) (K := 983040) rfl (by omega)), F2_202]
    first | exact Or.inl ⟨rfl, rfl⟩ | exact Or.inr ⟨rfl, rfl⟩
  by_cases h8 : x.toInt < 216
  · rw [F1_0, if_neg (own_nlt (x := x) (k := 97) (K := 97) rfl (by omega)), F1_6, if_pos (own_gt (x := x) (k := 122) (K := 122) rfl (by omega)), F1_12, if_neg (own_nlt (x := x) (k := 65) (K := 65) rfl (by omega)), F1_18, if_pos (own_gt (x := x) (k := 90) (K := 90) rfl (by omega)), F1_24, if_neg (own_neq (x := x) (k := 95) (K := 95) rfl (by omega)), F1_30, if_neg (own_nlt (x := x) (k := 192) (K := 192) rfl (by omega)), F1_37, if_pos (own_gt (x := x) (k := 214) (K := 214) rfl (by omega)), F1_44, if_pos (own_lt (x := x) (k := 216) (K := 216) rfl (by omega)), F1_58, if_pos (own_lt (x := x) (k := 248) (K := 248) rfl (by omega)), F1_72, if_pos (own_lt (x := x) (k := 880) (K := 880) rfl (by omega)), F1_86, if_pos (own_lt (x := x) (k := 895) (K := 895) rfl (by omega)), F1_100, if_pos (own_lt (x := x) (k := 8204) (K := 8204) rfl (by omega)), F1_114, if_pos (own_lt (x := x) (k := 8304) (K := 8304) rfl (by omega)), F1_128, if_pos (own_lt (x := x) (k := 11264) (K := 11264) rfl (by omega)), F1_142, if_pos (own_lt (x := x) (k := 12289) (K := 12289) rfl (by omega)), F1_155, if_pos (own_lt (x := x) (k := 63744) (K := 63744) rfl (by omega)), F1_167, if_pos (own_lt (x := x) (k := 65008) (K := 65008) rfl (by omega)), F1_179, if_pos (own_lt (x := x) (k := 65536) (K := 65536) rfl (by omega)), F1_195, F2_0, if_neg (own_nlt (x := x) (k := 65) (K := 65) rfl (by omega)), F2_8, if_neg (own_nlt (x := x) (k := 91) (K := 91) rfl (by omega)), F2_14, if_pos (own_gt (x := x) (k := 94) (K := 94) rfl (by omega)), F2_22, if_neg (own_neq (x := x) (k := 96) (K := 96) rfl (by omega)), F2_30, if_neg (own_nlt (x := x) (k := 123) (K := 123) rfl (by omega)), F2_36, if_pos (own_gt (x := x) (k := 191) (K := 191) rfl (by omega)), F2_45, if_pos (own_eq (x := x) (k := 215) (K := 215) rfl (by omega)), F2_59]
    first | exact Or.inl ⟨rfl, rfl⟩ | exact Or.inr ⟨rfl, rfl⟩
  by_cases h9 : x.toInt < 247
  · rw [F1_0, if_neg (own_nlt (x := x) (k := 97) (K := 97) rfl (by omega)), F1_6, if_pos (own_gt (x := x) (k := 122) (K := 122) rfl (by omega)), F1_12, if_neg (own_nlt (x := x) (k := 65) (K := 65) rfl (by omega)), F1_18, if_pos (own_gt (x := x) (k := 90) (K := 90) rfl (by omega)), F1_24, if_neg (own_neq (x := x) (k := 95) (K := 95) rfl (by omega)), F1_30, if_neg (own_nlt (x := x) (k := 192) (K := 192) rfl (by omega)), F1_37, if_pos (own_gt (x := x) (k := 214) (K := 214) rfl (by omega)), F1_44, if_neg (own_nlt (x := x) (k := 216) (K := 216) rfl (by omega)), F1_51, if_neg (own_ngt (x := x) (k := 246) (K := 246) rfl (by omega)), F1_191, F2_0, if_neg (own_nlt (x := x) (k := 65) (K := 65) rfl (by omega)), F2_8, if_neg (own_nlt (x := x) (k := 91) (K := 91) rfl (by omega)), F2_14, if_pos (own_gt (x := x) (k := 94) (K := 94) rfl (by omega)), F2_22, if_neg (own_neq (x := x) (k := 96) (K := 96) rfl (by omega)), F2_30, if_neg (own_nlt (x := x) (k := 123) (K := 123) rfl (by omega)), F2_36, if_pos (own_gt (x := x) (k := 191) (K := 191) rfl (by omega)), F2_45, if_neg (own_neq (x := x) (k := 215) (K := 215) rfl (by omega)), F2_52, if_neg (own_neq (x := x) (k := 247) (K := 247) rfl (by omega)), F2_61, if_pos (own_lt (x := x) (k := 768) (K := 768) rfl (by omega)), F2_77, if_neg (own_neq (x := x) (k := 894) (K := 894) rfl (by omega)), F2_86, if_pos (own_lt (x := x) (k := 8192) (K := 8192) rfl (by omega)), F2_102, if_pos (own_lt (x := x) (k := 8206) (K := 8206) rfl (by omega)), F2_118, if_pos (own_lt (x := x) (k := 8592) (K := 8592) rfl (by omega)), F2_134, if_pos (own_lt (x := x) (k := 12272) (K := 12272) rfl (by omega)), F2_150, if_pos (own_lt (x := x) (k := 55296) (K := 55296) rfl (by omega)), F2_164, if_pos (own_lt (x := x) (k := 64976) (K := 64976) rfl (by omega)), F2_178, if_neg (own_neq (x := x) (k := 65534) (K := 65534) rfl (by omega)), F2_184, if_neg (own_neq (x := x) (k := 65535) (K := 65535) rfl (by omega)), F2_192, if_pos (own_lt (x := x) (k := 983040) (K := 983040) rfl (by omega)), F2_202]
    first | exact Or.inl ⟨rfl, rfl⟩ | exact Or.inr ⟨rfl, rfl⟩
  by_cases h10 : x.toInt < 248
  · rw [F1_0, if_neg (own_nlt (x := x) (k := 97) (K := 97) rfl (by omega)), F1_6, if_pos (own_gt (x := x) (k := 122) (K := 122) rfl (by omega)), F1_12, if_neg (own_nlt (x := x) (k := 65) (K := 65) rfl (by omega)), F1_18, if_pos (own_gt (x := x) (k := 90) (K := 90) rfl (by omega)), F1_24, if_neg (own_neq (x := x) (k := 95) (K := 95) rfl (by omega)), F1_30, if_neg (own_nlt (x := x) (k := 192) (K := 192) rfl (by omega)), F1_37, if_pos (own_gt (x := x) (k := 214) (K := 214) rfl (by omega)), F1_44, if_neg (own_nlt (x := x) (k := 216) (K := 216) rfl (by omega)), F1_51, if_pos (own_gt (x := x) (k := 246) (K := 246) rfl (by omega)), F1_58, if_pos (own_lt (x := x) (k := 248) (K := 248) rfl (by omega)), F1_72, if_pos (own_lt (x := x) (k := 880) (K := 880) rfl (by omega)), F1_86, if_pos (own_lt (x := x) (k := 895) (K := 895) rfl (by omega)), F1_100, if_pos (own_lt (x := x) (k := 8204) (K := 8204) rfl (by omega)), F1_114, if_pos (own_lt (x := x) (k := 8304) (K := 8304) rfl (by omega)), F1_128, if_pos (own_lt (x := x) (k := 11264) (K := 11264) rfl (by omega)), F1_142, if_pos (own_lt (x := x) (k := 12289) (K := 12289) rfl (by omega)), F1_155, if_pos (own_lt (x := x) (k := 63744) (K := 63744) rfl (by omega)), F1_167, if_pos (own_lt (x := x) (k := 65008) (K := 65008) rfl (by omega)), F1_179, if_pos (own_lt (x := x) (k := 65536) (K := 65536) rfl (by omega)), F1_195, F2_0, if_neg (own_nlt (x := x) (k := 65) (K := 65) rfl (by omega)), F2_8, if_neg (own_nlt (x := x) (k := 91) (K := 91) rfl (by omega)), F2_14, if_pos (own_gt (x := x) (k := 94) (K := 94) rfl (by omega)), F2_22, if_neg (own_neq (x := x) (k := 96) (K := 96) rfl (by omega)), F2_30, if_neg (own_nlt (x := x) (k := 123) (K := 123) rfl (by omega)), F2_36, if_pos (own_gt (x := x) (k := 191) (K := 191) rfl (by omega)), F2_45, if_neg (own_neq (x := x) (k := 215) (K := 215) rfl (by omega)), F2_52, if_pos (own_eq (x := x) (k := 247) (K := 247) rfl (by omega)), F2_59]
    first | exact Or.inl ⟨rfl, rfl⟩ | exact Or.inr ⟨rfl, rfl⟩
  by_cases h11 : x.toInt < 768
  · rw [F1_0, if_neg (own_nlt (x := x) (k := 97) (K := 97) rfl (by omega)), F1_6, if_pos (own_gt (x := x) (k := 122) (K := 122) rfl (by omega)), F1_12, if_neg (own_nlt (x := x) (k := 65) (K := 65) rfl (by omega)), F1_18, if_pos (own_gt (x := x) (k := 90) (K := 90) rfl (by omega)), F1_24, if_neg (own_neq (x := x) (k := 95) (K := 95) rfl (by omega)), F1_30, if_neg (own_nlt (x := x) (k := 192) (K := 192) rfl (by omega)), F1_37, if_pos (own_gt (x := x) (k := 214) (K := 214) rfl (by omega)), F1_44, if_neg (own_nlt (x := x) (k := 216) (K := 216) rfl (by omega)), F1_51, if_pos (own_gt (x := x) (k := 246) (K := 246) rfl (by omega)), F1_58, if_neg (own_nlt (x := x) (k := 248) (K := 248) rfl (by omega)), F1_65, if_neg (own_ngt (x := x) (k := 767) (K := 767) rfl (by omega)), F1_191, F2_0, if_neg (own_nlt (x := x) (k := 65) (K := 65) rfl (by omega)), F2_8, if_neg (own_nlt (x := x) (k := 91) (K := 91) rfl (by omega)), F2_14, if_pos (own_gt (x := x) (k := 94) (K := 94) rfl (by omega)), F2_22, if_neg (own_neq (x := x) (k := 96) (K := 96) rfl (by omega)), F2_30, if_neg (own_nlt (x := x) (k := 123) (K := 123) rfl (by omega)), F2_36, if_pos (own_gt (x := x) (k := 191) (K := 191) rfl (by omega)), F2_45, if_neg (own_neq (x := x) (k := 215) (K := 215) rfl (by omega)), F2_52, if_neg (own_neq (x := x) (k := 247) (K := 247) rfl (by omega)), F2_61, if_pos (own_lt (x := x) (k := 768) (K := 768) rfl (by omega)), F2_77, if_neg (own_neq (x := x) (k := 894) (K := 894) rfl (by omega)), F2_86, if_pos (own_lt (x := x) (k := 8192) (K := 8192) rfl (by omega)), F2_102, if_pos (own_lt (x := x) (k := 8206) (K := 8206) rfl (by omega)), F2_118, if_pos (own_lt (x := x) (k := 8592) (K := 8592) rfl (by omega)), F2_134, if_pos (own_lt (x := x) (k := 12272) (K := 12272) rfl (by omega)), F2_150, if_pos (own_lt (x := x) (k := 55296) (K := 55296) rfl (by omega)), F2_164, if_pos (own_lt (x := x) (k := 64976) (K := 64976) rfl (by omega)), F2_178, if_neg (own_neq (x := x) (k := 65534) (K := 65534) rfl (by omega)), F2_184, if_neg (own_neq (x := x) (k := 65535) (K := 65535) rfl (by omega)), F2_192, if_pos (own_lt (x := x) (k := 983040) (K := 983040) rfl (by omega)), F2_202]
    first | exact Or.inl ⟨rfl, rfl⟩ | exact Or.inr ⟨rfl, rfl⟩
  by_cases h12 : x.toInt < 880
  · rw [F1_0, if_neg (own_nlt (x := x) (k := 97) (K := 97) rfl (by omega)), F1_6, if_pos (own_gt (x := x) (k := 122) (K := 122) rfl (by omega)), F1_12, if_neg (own_nlt (x := x) (k := 65) (K := 65) rfl (by omega)), F1_18, if_pos (own_gt (x := x) (k := 90) (K := 90) rfl (by omega)), F1_24, if_neg (own_neq (x := x) (k := 95) (K := 95) rfl (by omega)), F1_30, if_neg (own_nlt (x := x) (k := 192) (K := 192) rfl (by omega)), F1_37, if_pos (own_gt (x := x) (k := 214) (K := 214) rfl (by omega)), F1_44, if_neg (own_nlt (x := x) (k := 216) (K := 216) rfl (by omega)), F1_51, if_pos (own_gt (x := x) (k := 246) (K := 246) rfl (by omega)), F1_58, if_neg (own_nlt (x := x) (k := 248) (K := 248) rfl (by omega)), F1_65, if_pos (own_gt (x := x) (k := 767) (K := 767) rfl (by omega)), F1_72, if_pos (own_lt (x := x) (k := 880) (K := 880) rfl (by omega)), F1_86, if_pos (own_lt (x := x) (k := 895) (K := 895) rfl (by omega)), F1_100, if_pos (own_lt (x := x) (k := 8204) (K := 8204) rfl (by omega)), F1_114, if_pos (own_lt (x := x) (k := 8304) (K := 8304) rfl (by omega)), F1_128, if_pos (own_lt (x := x) (k := 11264) (K := 11264) rfl (by omega)), F1_142, if_pos (own_lt (x := x) (k := 12289) (K := 12289) rfl (by omega)), F1_155, if_pos (own_lt (x := x) (k := 63744) (K := 63744) rfl (by omega)), F1_167, if_pos (own_lt (x := x) (k := 65008) (K := 65008) rfl (by omega)), F1_179, if_pos (own_lt (x := x) (k := 65536) (K := 65536) rfl (by omega)), F1_195, F2_0, if_neg (own_nlt (x := x) (k := 65) (K := 65) rfl (by omega)), F2_8, if_neg (own_nlt (x := x) (k := 91) (K := 91) rfl (by omega)), F2_14, if_pos (own_gt (x := x) (k := 94) (K := 94) rfl (by omega)), F2_22, if_neg (own_neq (x := x) (k := 96) (K := 96) rfl (by omega)), F2_30, if_neg (own_nlt (x := x) (k := 123) (K := 123) rfl (by omega)), F2_36, if_pos (own_gt (x := x) (k := 191) (K := 191) rfl (by omega)), F2_45, if_neg (own_neq (x := x) (k := 215) (K := 215) rfl (by omega)), F2_52, if_neg (own_neq (x := x) (k := 247) (K := 247) rfl (by omega)), F2_61, if_neg (own_nlt (x := x) (k := 768) (K := 768) rfl (by omega)), F2_68, if_neg (own_ngt (x := x) (k := 879) (K := 879) rfl (by omega)), F2_75]
    first | exact Or.inl ⟨rfl, rfl⟩ | exact Or.inr ⟨rfl, rfl⟩
  by_cases h13 : x.toInt < 894
  · rw [F1_0, if_neg (own_nlt (x := x) (k := 97) (K := 97) rfl (by omega)), F1_6, if_pos (own_gt (x := x) (k := 122) (K := 122) rfl (by omega)), F1_12, if_neg (own_nlt (x := x) (k := 65) (K := 65) rfl (by omega)), F1_18, if_pos (own_gt (x := x) (k := 90) (K := 90) rfl (by omega)), F1_24, if_neg (own_neq (x := x) (k := 95) (K := 95) rfl (by omega)), F1_30, if_neg (own_nlt (x := x) (k := 192) (K := 192) rfl (by omega)), F1_37, if_pos (own_gt (x := x) (k := 214) (K := 214) rfl (by omega)), F1_44, if_neg (own_nlt (x := x) (k := 216) (K := 216) rfl (by omega)), F1_51, if_pos (own_gt (x := x) (k := 246) (K := 246) rfl (by omega)), F1_58, if_neg (own_nlt (x := x) (k := 248) (K := 248) rfl (by omega)), F1_65, if_pos (own_gt (x := x) (k := 767) (K := 767) rfl (by omega)), F1_72, if_neg (own_nlt (x := x) (k := 880) (K := 880) rfl (by omega)), F1_79, if_neg (own_ngt (x := x) (k := 893) (K := 893) rfl (by omega)), F1_191, F2_0, if_neg (own_nlt (x := x) (k := 65) (K := 65) rfl (by omega)), F2_8, if_neg (own_nlt (x := x) (k := 91) (K := 91) rfl (by omega)), F2_14, if_pos (own_gt (x := x) (k := 94) (K := 94) rfl (by omega)), F2_22, if_neg (own_neq (x := x) (k := 96) (K := 96) rfl (by omega)), F2_30, if_neg (own_nlt (x := x) (k := 123) (K := 123) rfl (by omega)), F2_36, if_pos (own_gt (x := x) (k := 191) (K := 191) rfl (by omega)), F2_45, if_neg (own_neq (x := x) (k := 215) (K := 215) rfl (by omega)), F2_52, if_neg (own_neq (x := x) (k := 247) (K := 247) rfl (by omega)), F2_61, if_neg (own_nlt (x := x) (k := 768) (K := 768) rfl (by omega)), F2_68, if_pos (own_gt (x := x) (k := 879) (K := 879) rfl (by omega)), F2_77, if_neg (own_neq (x := x) (k := 894) (K := 894) rfl (by omega)), F2_86, if_pos (own_lt (x := x) (k := 8192) (K := 8192) rfl (by omega)), F2_102, if_pos (own_lt (x := x) (k := 8206) (K := 8206) rfl (by omega)), F2_118, if_pos (own_lt (x := x) (k := 8592) (K := 8592) rfl (by omega)), F2_134, if_pos (own_lt (x := x) (k := 12272) (K := 12272) rfl (by omega)), F2_150, if_pos (own_lt (x := x) (k := 55296) (K := 55296) rfl (by omega)), F2_164, if_pos (own_lt (x := x) (k := 64976) (K := 64976) rfl (by omega)), F2_178, if_neg (own_neq (x := x) (k := 65534) (K := 65534) rfl (by omega)), F2_184, if_neg (own_neq (x := x) (k := 65535) (K := 65535) rfl (by omega)), F2_192, if_pos (own_lt (x := x) (k := 983040) (K := 983040) rfl (by omega)), F2_202]
    first | exact Or.inl ⟨rfl, rfl⟩ | exact Or.inr ⟨rfl, rfl⟩
  by_cases h14 : x.toInt < 895
  · rw [F1_0, if_neg (own_nlt (x := x) (k := 97) (K := 97) rfl (by omega)), F1_6, if_pos (own_gt (x := x) (k := 122) (K := 122) rfl (by omega)), F1_12, if_neg (own_nlt (x := x) (k := 65) (K := 65) rfl (by omega)), F1_18, if_pos (own_gt (x := x) (k := 90) (K := 90) rfl (by omega)), F1_24, if_neg (own_neq (x := x) (k := 95) (K := 95) rfl (by omega)), F1_30, if_neg (own_nlt (x := x) (k := 192) (K := 192) rfl (by omega)), F1_37, if_pos (own_gt (x := x) (k := 214) (K := 214) rfl (by omega)), F1_44, if_neg (own_nlt (x := x) (k := 216) (K := 216) rfl (by omega)), F1_51, if_pos (own_gt (x := x) (k := 246) (K := 246) rfl (by omega)), F1_58, if_neg (own_nlt (x := x) (k := 248) (K := 248) rfl (by omega)), F1_65, if_pos (own_gt (x := x) (k := 767) (K := 767) rfl (by omega)), F1_72, if_neg (own_nlt (x := x) (k := 880) (K := 880) rfl (by omega)), F1_79, if_pos (own_gt (x := x) (k := 893) (K := 893) rfl (by omega)), F1_86, if_pos (own_lt (x := x) (k := 895) (K := 895) rfl (by omega)), F1_100, if_pos (own_lt (x := x) (k := 8204) (K := 8204) rfl (by omega)), F1_114, if_pos (own_lt (x := x) (k := 8304) (K := 8304) rfl (by omega)), F1_128, if_pos (own_lt (x := x) (k := 11264) (K := 11264) rfl (by omega)), F1_142, if_pos (own_lt (x := x) (k := 12289) (K := 12289) rfl (by omega)), F1_155, if_pos (own_lt (x := x) (k := 63744) (K := 63744) rfl (by omega)), F1_167, if_pos (own_lt (x := x) (k := 65008) (K := 65008) rfl (by omega)), F1_179, if_pos (own_lt (x := x) (k := 65536) (K := 65536) rfl (by omega)), F1_195, F2_0, if_neg (own_nlt (x := x) (k := 65) (K := 65) rfl (by omega)), F2_8, if_neg (own_nlt (x := x) (k := 91) (K := 91) rfl (by omega)), F2_14, if_pos (own_gt (x := x) (k := 94) (K := 94) rfl (by omega)), F2_22, if_neg (own_neq (x := x) (k := 96) (K := 96) rfl (by omega)), F2_30, if_neg (own_nlt (x := x) (k := 123) (K := 123) rfl (by omega)), F2_36, if_pos (own_gt (x := x) (k := 191) (K := 191) rfl (by omega)), F2_45, if_neg (own_neq (x := x) (k := 215) (K := 215) rfl (by omega)), F2_52, if_neg (own_neq (x := x) (k := 247) (K := 247) rfl (by omega)), F2_61, if_neg (own_nlt (x := x) (k := 768) (K := 768) rfl (by omega)), F2_68, if_pos (own_gt (x := x) (k := 879) (K := 879) rfl (by omega)), F2_77, if_pos (own_eq (x := x) (k := 894) (K := 894) rfl (by omega)), F2_84]
    first | exact Or.inl ⟨rfl, rfl⟩ | exact Or.inr ⟨rfl, rfl⟩
  by_cases h15 : x.toInt < 8192
  · rw [F1_0, if_neg (own_nlt (x := x) (k := 97) (K := 97) rfl (by omega)), F1_6, if_pos (own_gt (x := x) (k := 122) (K := 122) rfl (by omega)), F1_12, if_neg (own_nlt (x := x) (k := 65) (K := 65) rfl (by omega)), F1_18, if_pos (own_gt (x := x) (k := 90) (K := 90) rfl (by omega)), F1_24, if_neg (own_neq (x := x) (k := 95) (K := 95) rfl (by omega)), F1_30, if_neg (own_nlt (x := x) (k := 192) (K := 192) rfl (by omega)), F1_37, if_pos (own_gt (x := x) (k := 214) (K := 214) rfl (by omega)), F1_44, if_neg (own_nlt (x := x) (k := 216) (K := 216) rfl (by omega)), F1_51, if_pos (own_gt (x := x) (k := 246) (K := 246) rfl (by omega)), F1_58, if_neg (own_nlt (x := x) (k := 248) (K := 248) rfl (by omega)), F1_65, if_pos (own_gt (x := x) (k := 767) (K := 767) rfl (by omega)), F1_72, if_neg (own_nlt (x := x) (k := 880) (K := 880) rfl (by omega)), F1_79, if_pos (own_gt (x := x) (k := 893) (K := 893) rfl (by omega)), F1_86, if_neg (own_nlt (x := x) (k := 895) (K := 895) rfl (by omega)), F1_93, if_neg (own_ngt (x := x) (k := 8191) (K := 8191) rfl (by omega)), F1_191, F2_0, if_neg (own_nlt (x := x) (k := 65) (K := 65) rfl (by omega)), F2_8, if_neg (own_nlt (x := x) (k := 91) (K := 91) rfl (by omega)), F2_14, if_pos (own_gt (x := x) (k := 94) (K := 94) rfl (by omega)), F2_22, if_neg (own_neq (x := x) (k := 96) (K := 96) rfl (by omega)), F2_30, if_neg (own_nlt (x := x) (k := 123) (K := 123) rfl (by omega)), F2_36, if_pos (own_gt (x := x) (k := 191) (K := 191) rfl (by omega)), F2_45, if_neg (own_neq (x := x) (k := 215) (K := 215) rfl (by omega)), F2_52, if_neg (own_neq (x := x) (k := 247) (K := 247) rfl (by omega)), F2_61, if_neg (own_nlt (x := x) (k := 768) (K := 768) rfl (by omega)), F2_68, if_pos (own_gt (x := x) (k := 879) (K := 879) rfl (by omega)), F2_77, if_neg (own_neq (x := x) (k := 894) (K := 894) rfl (by omega)), F2_86, if_pos (own_lt (x := x) (k := 8192) (K := 8192) rfl (by omega)), F2_102, if_pos (own_lt (x := x) (k := 8206) (K := 8206) rfl (by omega)), F2_118, if_pos (own_lt (x := x) (k := 8592) (K := 8592) rfl (by omega)), F2_134, if_pos (own_lt (x := x) (k := 12272) (K := 12272) rfl (by omega)), F2_150, if_pos (own_lt (x := x) (k := 55296) (K := 55296) rfl (by omega)), F2_164, if_pos (own_lt (x := x) (k := 64976) (K := 64976) rfl (by omega)), F2_178, if_neg (own_neq (x := x) (k := 65534) (K := 65534) rfl (by omega)), F2_184, if_neg (own_neq (x := x) (k := 65535) (K := 65535) rfl (by omega)), F2_192, if_pos (own_lt (x := x) (k := 983040) (K := 983040) rfl (by omega)), F2_202]
    first | exact Or.inl ⟨rfl, rfl⟩ | exact Or.inr ⟨rfl, rfl⟩
  by_cases h16 : x.toInt < 8204
  · rw [F1_0, if_neg (own_nlt (x := x) (k := 97) (K := 97) rfl (by omega)), F1_6, if_pos (own_gt (x := x) (k := 122) (K := 122) rfl (by omega)), F1_12, if_neg (own_nlt (x := x) (k := 65) (K := 65) rfl (by omega)), F1_18, if_pos (own_gt (x := x) (k := 90) (K := 90) rfl (by omega)), F1_24, if_neg (own_neq (x := x) (k := 95) (K := 95) rfl (by omega)), F1_30, if_neg (own_nlt (x := x) (k := 192) (K := 192) rfl (by omega)), F1_37, if_pos (own_gt (x := x) (k := 214) (K := 214) rfl (by omega)), F1_44, if_neg (own_nlt (x := x) (k := 216) (K := 216) rfl (by omega)), F1_51, if_pos (own_gt (x := x) (k := 246) (K := 246) rfl (by omega)), F1_58, if_neg (own_nlt (x := x) (k := 248) (K := 248) rfl (by omega)), F1_65, if_pos (own_gt (x := x) (k := 767) (K := 767) rfl (by omega)), F1_72, if_neg (own_nlt (x := x) (k := 880) (K := 880) rfl (by omega)), F1_79, if_pos (own_gt (x := x) (k := 893) (K := 893) rfl (by omega)), F1_86, if_neg (own_nlt (x := x) (k := 895) (K := 895) rfl (by omega)), F1_93, if_pos (own_gt (x := x) (k := 8191) (K := 8191) rfl (by omega)), F1_100, if_pos (own_lt (x := x) (k := 8204) (K := 8204) rfl (by omega)), F1_114, if_pos (own_lt (x := x) (k := 8304) (K := 8304) rfl (by omega)), F1_128, if_pos (own_lt (x := x) (k := 11264) (K := 11264) rfl (by omega)), F1_142, if_pos (own_lt (x := x) (k := 12289) (K := 12289) rfl (by omega)), F1_155, if_pos (own_lt (x := x) (k := 63744) (K := 63744) rfl (by omega)), F1_167, if_pos (own_lt (x := x) (k := 65008) (K := 65008) rfl (by omega)), F1_179, if_pos (own_lt (x := x) (k := 65536) (K := 65536) rfl (by omega)), F1_195, F2_0, if_neg (own_nlt (x := x) (k := 65) (K := 65) rfl (by omega)), F2_8, if_neg (own_nlt (x := x) (k := 91) (K := 91) rfl (by omega)), F2_14, if_pos (own_gt (x := x) (k := 94) (K := 94) rfl (by omega)), F2_22, if_neg (own_neq (x := x) (k := 96) (K := 96) rfl (by omega)), F2_30, if_neg (own_nlt (x := x) (k := 123) (K := 123) rfl (by omega)), F2_36, if_pos (own_gt (x := x) (k := 191) (K := 191) rfl (by omega)), F2_45, if_neg (own_neq (x := x) (k := 215) (K := 215) rfl (by omega)), F2_52, if_neg (own_neq (x := x) (k := 247) (K := 247) rfl (by omega)), F2_61, if_neg (own_nlt (x := x) (k := 768) (K := 768) rfl (by omega)), F2_68, if_pos (own_gt (x := x) (k := 879) (K := 879) rfl (by omega)), F2_77, if_neg (own_neq (x := x) (k := 894) (K := 894) rfl (by omega)), F2_86, if_neg (own_nlt (x := x) (k := 8192) (K := 8192) rfl (by omega)), F2_93, if_neg (own_ngt (x := x) (k := 8203) (K := 8203) rfl (by omega)), F2_100]
    first | exact Or.inl ⟨rfl, rfl⟩ | exact Or.inr ⟨rfl, rfl⟩
  by_cases h17 : x.toInt < 8206
  · rw [F1_0, if_neg (own_nlt (x := x) (k := 97) (K := 97) rfl (by omega)), F1_6, if_pos (own_gt (x := x) (k := 122) (K := 122) rfl (by omega)), F1_12, if_neg (own_nlt (x := x) (k := 65) (K := 65) rfl (by omega)), F1_18, if_pos (own_gt (x := x) (k := 90) (K := 90) rfl (by omega)), F1_24, if_neg (own_neq (x := x) (k := 95) (K := 95) rfl (by omega)), F1_30, if_neg (own_nlt (x := x) (k := 192) (K := 192) rfl (by omega)), F1_37, if_pos (own_gt (x := x) (k := 214) (K := 214) rfl (by omega)), F1_44, if_neg (own_nlt (x := x) (k := 216) (K := 216) rfl (by omega)), F1_51, if_pos (own_gt (x := x) (k := 246) (K := 246) rfl (by omega)), F1_58, if_neg (own_nlt (x := x) (k := 248) (K := 248) rfl (by omega)), F1_65, if_pos (own_gt (x := x) (k := 767) (K := 767) rfl (by omega)), F1_72, if_neg (own_nlt (x := x) (k := 880) (K := 880) rfl (by omega)), F1_79, if_pos (own_gt (x := x) (k := 893) (K := 893) rfl (by omega)), F1_86, if_neg (own_nlt (x := x) (k := 895) (K := 895) rfl (by omega)), F1_93, if_pos (own_gt (x := x) (k := 8191) (K := 8191) rfl (by omega)), F1_100, if_neg (own_nlt (x := x) (k := 8204) (K := 8204) rfl (by omega)), F1_107, if_neg (own_ngt (x := x) (k := 8205) (K := 8205) rfl (by omega)), F1_191, F2_0, if_neg (own_nlt (x := x) (k := 65) (K := 65) rfl (by omega)), F2_8, if_neg (own_nlt (x := x) (k := 91) (K := 91) rfl (by omega)), F2_14, if_pos (own_gt (x := x) (k := 94) (K := 94) rfl (by omega)), F2_22, if_neg (own_neq (x := x) (k := 96) (K := 96) rfl (by omega)), F2_30, if_neg (own_nlt (x := x) (k := 123) (K := 123) rfl (by omega)), F2_36, if_pos (own_gt (x := x) (k := 191) (K := 191) rfl (by omega)), F2_45, if_neg (own_neq (x := x) (k := 215) (K := 215) rfl (by omega)), F2_52, if_neg (own_neq (x := x) (k := 247) (K := 247) rfl (by omega)), F2_61, if_neg (own_nlt (x := x) (k := 768) (K := 768) rfl (by omega)), F2_68, if_pos (own_gt (x := x) (k := 879) (K := 879) rfl (by omega)), F2_77, if_neg (own_neq (x := x) (k := 894) (K := 894) rfl (by omega)), F2_86, if_neg (own_nlt (x := x) (k := 8192) (K := 8192) rfl (by omega)), F2_93, if_pos (own_gt (x := x) (k := 8203) (K := 8203) rfl (by omega)), F2_102, if_pos (own_lt (x := x) (k := 8206) (K := 8206) rfl (by omega)), F2_118, if_pos (own_lt (x := x) (k := 8592) (K := 8592) rfl (by omega)), F2_134, if_pos (own_lt (x := x) (k := 12272) (K := 12272) rfl (by omega)), F2_150, if_pos (own_lt (x := x) (k := 55296) (K := 55296) rfl (by omega)), F2_164, if_pos (own_lt (x := x) (k := 64976) (K := 64976) rfl (by omega)), F2_178, if_neg (own_neq (x := x) (k := 65534) (K := 65534) rfl (by omega)), F2_184, if_neg (own_neq (x := x) (k := 65535) (K := 65535) rfl (by omega)), F2_192, if_pos (own_lt (x := x) (k := 983040) (K := 983040) rfl (by omega)), F2_202]
    first | exact Or.inl ⟨rfl, rfl⟩ | exact Or.inr ⟨rfl, rfl⟩
  by_cases h18 : x.toInt < 8304
  · rw [F1_0, if_neg (own_nlt (x := x) (k := 97) (K := 97) rfl (by omega)), F1_6, if_pos (own_gt (x := x) (k := 122) (K := 122) rfl (by omega)), F1_12, if_neg (own_nlt (x := x) (k := 65) (K := 65) rfl (by omega)), F1_18, if_pos (own_gt (x := x) (k := 90) (K := 90) rfl (by omega)), F1_24, if_neg (own_neq (x := x) (k := 95) (K := 95) rfl (by omega)), F1_30, if_neg (own_nlt (x := x) (k := 192) (K := 192) rfl (by omega)), F1_37, if_pos (own_gt (x := x) (k := 214) (K := 214) rfl (by omega)), F1_44, if_neg (own_nlt (x := x) (k := 216) (K := 216) rfl (by omega)), F1_51, if_pos (own_gt (x := x) (k := 246) (K := 246) rfl (by omega)), F1_58, if_neg (own_nlt (x := x) (k := 248) (K := 248) rfl (by omega)), F1_65, if_pos (own_gt (x := x) (k := 767) (K := 767) rfl (by omega)), F1_72, if_neg (own_nlt (x := x) (k := 880) (K := 880) rfl (by omega)), F1_79, if_pos (own_gt (x := x) (k := 893) (K := 893) rfl (by omega)), F1_86, if_neg (own_nlt (x := x) (k := 895) (K := 895) rfl (by omega)), F1_93, if_pos (own_gt (x := x) (k := 8191) (K := 8191) rfl (by omega)), F1_100, if_neg (own_nlt (x := x) (k := 8204) (K := 8204) rfl (by omega)), F1_107, if_pos (own_gt (x := x) (k := 8205) (K := 8205) rfl (by omega)), F1_114, if_pos (own_lt (x := x) (k := 8304) (K := 8304) rfl (by omega)), F1_128, if_pos (own_lt (x := x) (k := 11264) (K := 11264) rfl (by omega)), F1_142, if_pos (own_lt (x := x) (k := 12289) (K := 12289) rfl (by omega)), F1_155, if_pos (own_lt (x := x) (k := 63744) (K := 63744) rfl (by omega)), F1_167, if_pos (own_lt (x := x) (k := 65008) (K := 65008) rfl (by omega)), F1_179, if_pos (own_lt (x := x) (k := 65536) (K := 65536) rfl (by omega)), F1_195, F2_0, if_neg (own_nlt (x := x) (k := 65) (K := 65) rfl (by omega)), F2_8, if_neg (own_nlt (x := x) (k := 91) (K := 91) rfl (by omega)), F2_14, if_pos (own_gt (x := x) (k := 94) (K := 94) rfl (by omega)), F2_22, if_neg (own_neq (x := x) (k := 96) (K := 96) rfl (by omega)), F2_30, if_neg (own_nlt (x := x) (k := 123) (K := 123) rfl (by omega)), F2_36, if_pos (own_gt (x := x) (k := 191) (K := 191) rfl (by omega)), F2_45, if_neg (own_neq (x := x) (k := 215) (K := 215) rfl (by omega)), F2_52, if_neg (own_neq (x := x) (k := 247) (K := 247) rfl (by omega)), F2_61, if_neg (own_nlt (x := x) (k := 768) (K := 768) rfl (by omega)), F2_68, if_pos (own_gt (x := x) (k := 879) (K := 879) rfl (by omega)), F2_77, if_neg (own_neq (x := x) (k := 894) (K := 894) rfl (by omega)), F2_86, if_neg (own_nlt (x := x) (k := 8192) (K := 8192) rfl (by omega)), F2_93, if_pos (own_gt (x := x) (k := 8203) (K := 8203) rfl (by omega)), F2_102, if_neg (own_nlt (x := x) (k := 8206) (K := 8206) rfl (by omega)), F2_109, if_neg (own_ngt (x := x) (k := 8303) (K := 8303) rfl (by omega)), F2_116]
    first | exact Or.inl ⟨rfl, rfl⟩ | exact Or.inr ⟨rfl, rfl⟩
  by_cases h19 : x.toInt < 8592
  · rw [F1_0, if_neg (own_nlt (x := x) (k := 97) (K := 97) rfl (by omega)), F1_6, if_pos (own_gt (x := x) (k := 122) (K := 122) rfl (by omega)), F1_12, if_neg (own_nlt (x := x) (k := 65) (K := 65) rfl (by omega)), F1_18, if_pos (own_gt (x := x) (k := 90) (K := 90) rfl (by omega)), F1_24, if_neg (own_neq (x := x) (k := 95) (K := 95) rfl (by omega)), F1_30, if_neg (own_nlt (x := x) (k := 192) (K := 192) rfl (by omega)), F1_37, if_pos (own_gt (x := x) (k := 214) (K := 214) rfl (by omega)), F1_44, if_neg (own_nlt (x := x) (k := 216) (K := 216) rfl (by omega)), F1_51, if_pos (own_gt (x := x) (k := 246) (K := 246) rfl (by omega)), F1_58, if_neg (own_nlt (x := x) (k := 248) (K := 248) rfl (by omega)), F1_65, if_pos (own_gt (x := x) (k := 767) (K := 767) rfl (by omega)), F1_72, if_neg (own_nlt (x := x) (k := 880) (K := 880) rfl (by omega)), F1_79, if_pos (own_gt (x := x) (k := 893) (K := 893) rfl (by omega)), F1_86, if_neg (own_nlt (x := x) (k := 895) (K := 895) rfl (by omega)), F1_93, if_pos (own_gt (x := x) (k := 8191) (K := 8191) rfl (by omega)), F1_100, if_neg (own_nlt (x := x) (k := 8204) (K := 8204) rfl (by omega)), F1_107, if_pos (own_gt (x := x) (k := 8205) (K := 8205) rfl (by omega)), F1_114, if_neg (own_nlt (x := x) (k := 8304) (K := 8304) rfl (by omega)), F1_121, if_neg (own_ngt (x := x) (k := 8591) (K := 8591) rfl (by omega)), F1_191, F2_0, if_neg (own_nlt (x := x) (k := 65) (K := 65) rfl (by omega)), F2_8, if_neg (own_nlt (x := x) (k := 91) (K := 91) rfl (by omega)), F2_14, if_pos (own_gt (x := x) (k := 94) (K := 94) rfl (by omega)), F2_22, if_neg (own_neq (x := x) (k := 96) (K := 96) rfl (by omega)), F2_30, if_neg (own_nlt (x := x) (k := 123) (K := 123) rfl (by omega)), F2_36, if_pos (own_gt (x := x) (k := 191) (K := 191) rfl (by omega)), F2_45, if_neg (own_neq (x := x) (k := 215) (K := 215) rfl (by omega)), F2_52, if_neg (own_neq (x := x) (k := 247) (K := 247) rfl (by omega)), F2_61, if_neg (own_nlt (x := x) (k := 768) (K := 768) rfl (by omega)), F2_68, if_pos (own_gt (x := x) (k := 879) (K := 879) rfl (by omega)), F2_77, if_neg (own_neq (x := x) (k := 894) (K := 894) rfl (by omega)), F2_86, if_neg (own_nlt (x := x) (k := 8192) (K := 8192) rfl (by omega)), F2_93, if_pos (own_gt (x := x) (k := 8203) (K := 8203) rfl (by omega)), F2_102, if_neg (own_nlt (x := x) (k := 8206) (K := 8206) rfl (by omega)), F2_109, if_pos (own_gt (x := x) (k := 8303) (K := 8303) rfl (by omega)), F2_118, if_pos (own_lt (x := x) (k := 8592) (K := 8592) rfl (by omega)), F2_134, if_pos (own_lt (x := x) (k := 12272) (K := 12272) rfl (by omega)), F2_150, if_pos (own_lt (x := x) (k := 55296) (K := 55296) rfl (by omega)), F2_164, if_pos (own_lt (x := x) (k := 64976) (K := 64976) rfl (by omega)), F2_178, if_neg (own_neq (x := x) (k := 65534) (K := 65534) rfl (by omega)), F2_184, if_neg (own_neq (x := x) (k := 65535) (K := 65535) rfl (by omega)), F2_192, if_pos (own_lt (x := x) (k := 983040) (K := 983040) rfl (by omega)), F2_202]
    first | exact Or.inl ⟨rfl, rfl⟩ | exact Or.inr ⟨rfl, rfl⟩
  by_cases h20 : x.toInt < 11264
  · rw [F1_0, if_neg (own_nlt (x := x) (k := 97) (K := 97) rfl (by omega)), F1_6, if_pos (own_gt (x := x) (k := 122) (K := 122) rfl (by omega)), F1_12, if_neg (own_nlt (x := x) (k := 65) (K := 65) rfl (by omega)), F1_18, if_pos (own_gt (x := x) (k := 90) (K := 90) rfl (by omega)), F1_24, if_neg (own_neq (x := x) (k := 95) (K := 95) rfl (by omega)), F1_30, if_neg (own_nlt (x := x) (k := 192) (K := 192) rfl (by omega)), F1_37, if_pos (own_gt (x := x) (k := 214) (K := 214) rfl (by omega)), F1_44, if_neg (own_nlt (x := x) (k := 216) (K := 216) rfl (by omega)), F1_51, if_pos (own_gt (x := x) (k := 246) (K := 246) rfl (by omega)), F1_58, if_neg (own_nlt (x := x) (k := 248) (K := 248) rfl (by omega)), F1_65, if_pos (own_gt (x := x) (k := 767) (K := 767) rfl (by omega)), F1_72, if_neg (own_nlt (x := x) (k := 880) (K := 880) rfl (by omega)), F1_79, if_pos (own_gt (x := x) (k := 893) (K := 893) rfl (by omega)), F1_86, if_neg (own_nlt (x := x) (k := 895) (K := 895) rfl (by omega)), F1_93, if_pos (own_gt (x := x) (k := 8191) (K := 8191) rfl (by omega)), F1_100, if_neg (own_nlt (x := x) (k := 8204) (K := 8204) rfl (by omega)), F1_107, if_pos (own_gt (x := x) (k := 8205) (K := 8205) rfl (by omega)), F1_114, if_neg (own_nlt (x := x) (k := 8304) (K := 8304) rfl (by omega)), F1_121, if_pos (own_gt (x := x) (k := 8591) (K := 8591) rfl (by omega)), F1_128, if_pos (own_lt (x := x) (k := 11264) (K := 11264) rfl (by omega)), F1_142, if_pos (own_lt (x := x) (k := 12289) (K := 12289) rfl (by omega)), F1_155, if_pos (own_lt (x := x) (k := 63744) (K := 63744) rfl (by omega)), F1_167, if_pos (own_lt (x := x) (k := 65008) (K := 65008) rfl (by omega)), F1_179, if_pos (own_lt (x := x) (k := 65536) (K := 65536) rfl (by omega)), F1_195, F2_0, if_neg (own_nlt (x := x) (k := 65) (K := 65) rfl (by omega)), F2_8, if_neg (own_nlt (x := x) (k := 91) (K := 91) rfl (by omega)), F2_14, if_pos (own_gt (x := x) (k := 94) (K := 94) rfl (by omega)), F2_22, if_neg (own_neq (x := x) (k := 96) (K := 96) rfl (by omega)), F2_30, if_neg (own_nlt (x := x) (k := 123) (K := 123) rfl (by omega)), F2_36, if_pos (own_gt (x := x) (k := 191) (K := 191) rfl (by omega)), F2_45, if_neg (own_neq (x := x) (k := 215) (K := 215) rfl (by omega)), F2_52, if_neg (own_neq (x := x) (k := 247) (K := 247) rfl (by omega)), F2_61, if_neg (own_nlt (x := x) (k := 768) (K := 768) rfl (by omega)), F2_68, if_pos (own_gt (x := x) (k := 879) (K := 879) rfl (by omega)), F2_77, if_neg (own_neq (x := x) (k := 894) (K := 894) rfl (by omega)), F2_86, if_neg (own_nlt (x := x) (k := 8192) (K := 8192) rfl (by omega)), F2_93, if_pos (own_gt (x := x) (k := 8203) (K := 8203) rfl (by omega)), F2_102, if_neg (own_nlt (x := x) (k := 8206) (K := 8206) rfl (by omega)), F2_109, if_pos (own_gt (x := x) (k := 8303) (K := 8303) rfl (by omega)), F2_118, if_neg (own_nlt (x := x) (k := 8592) (K := 8592) rfl (by omega)), F2_125, if_neg (own_ngt (x := x) (k := 11263) (K := 11263) rfl (by omega)), F2_132]
    first | exact Or.inl ⟨rfl, rfl⟩ | exact Or.inr ⟨rfl, rfl⟩
  by_cases h21 : x.toInt < 12272
  · rw [F1_0, if_neg (own_nlt (x := x) (k := 97) (K := 97) rfl (by omega)), F1_6, if_pos (own_gt (x := x) (k := 122) (K := 122) rfl (by omega)), F1_12, if_neg (own_nlt (x := x) (k := 65) (K := 65) rfl (by omega)), F1_18, if_pos (own_gt (x := x) (k := 90) (K := 90) rfl (by omega)), F1_24, if_neg (own_neq (x := x) (k := 95) (K := 95) rfl (by omega)), F1_30, if_neg (own_nlt (x := x) (k := 192) (K := 192) rfl (by omega)), F1_37, if_pos (own_gt (x := x) (k := 214) (K := 214) rfl (by omega)), F1_44, if_neg (own_nlt (x := x) (k := 216) (K := 216) rfl (by omega)), F1_51, if_pos (own_gt (x := x) (k := 246) (K := 246) rfl (by omega)), F1_58, if_neg (own_nlt (x := x) (k := 248) (K := 248) rfl (by omega)), F1_65, if_pos (own_gt (x := x) (k := 767) (K := 767) rfl (by omega)), F1_72, if_neg (own_nlt (x := x) (k := 880) (K := 880) rfl (by omega)), F1_79, if_pos (own_gt (x := x) (k := 893) (K := 893) rfl (by omega)), F1_86, if_neg (own_nlt (x := x) (k := 895) (K := 895) rfl (by omega)), F1_93, if_pos (own_gt (x := x) (k := 8191) (K := 8191) rfl (by omega)), F1_100, if_neg (own_nlt (x := x) (k := 8204) (K := 8204) rfl (by omega)), F1_107, if_pos (own_gt (x := x) (k := 8205) (K := 8205) rfl (by omega)), F1_114, if_neg (own_nlt (x := x) (k := 8304) (K := 8304) rfl (by omega)), F1_121, if_pos (own_gt (x := x) (k := 8591) (K := 8591) rfl (by omega)), F1_128, if_neg (own_nlt (x := x) (k := 11264) (K := 11264) rfl (by omega)), F1_135, if_neg (own_ngt (x := x) (k := 12271) (K := 12271) rfl (by omega)), F1_191, F2_0, if_neg (own_nlt (x := x) (k := 65) (K := 65) rfl (by omega)), F2_8, if_neg (own_nlt (x := x) (k := 91) (K := 91) rfl (by omega)), F2_14, if_pos (own_gt (x := x) (k := 94) (K := 94) rfl (by omega)), F2_22, if_neg (own_neq (x := x) (k := 96) (K := 96) rfl (by omega)), F2_30, if_neg (own_nlt (x := x) (k := 123) (K := 123) rfl (by omega)), F2_36, if_pos (own_gt (x := x) (k := 191) (K := 191) rfl (by omega)), F2_45, if_neg (own_neq (x := x) (k := 215) (K := 215) rfl (by omega)), F2_52, if_neg (own_neq (x := x) (k := 247) (K := 247) rfl (by omega)), F2_61, if_neg (own_nlt (x := x) (k := 768) (K := 768) rfl (by omega)), F2_68, if_pos (own_gt (x := x) (k := 879) (K := 879) rfl (by omega)), F2_77, if_neg (own_neq (x := x) (k := 894) (K := 894) rfl (by omega)), F2_86, if_neg (own_nlt (x := x) (k := 8192) (K := 8192) rfl (by omega)), F2_93, if_pos (own_gt (x := x) (k := 8203) (K := 8203) rfl (by omega)), F2_102, if_neg (own_nlt (x := x) (k := 8206) (K := 8206) rfl (by omega)), F2_109, if_pos (own_gt (x := x) (k := 8303) (K := 8303) rfl (by omega)), F2_118, if_neg (own_nlt (x := x) (k := 8592) (K := 8592) rfl (by omega)), F2_125, if_pos (own_gt (x := x) (k := 11263) (K := 11263) rfl (by omega)), F2_134, if_pos (own_lt (x := x) (k := 12272) (K := 12272) rfl (by omega)), F2_150, if_pos (own_lt (x := x) (k := 55296) (K := 55296) rfl (by omega)), F2_164, if_pos (own_lt (x := x) (k := 64976) (K := 64976) rfl (by omega)), F2_178, if_neg (own_neq (x := x) (k := 65534) (K := 65534) rfl (by omega)), F2_184, if_neg (own_neq (x := x) (k := 65535) (K := 65535) rfl (by omega)), F2_192, if_pos (own_lt (x := x) (k := 983040) (K := 983040) rfl (by omega)), F2_202]
    first | exact Or.inl ⟨rfl, rfl⟩ | exact Or.inr ⟨rfl, rfl⟩
  by_cases h22 : x.toInt < 12289
  · rw [F1_0, if_neg (own_nlt (x := x) (k := 97) (K := 97) rfl (by omega)), F1_6, if_pos (own_gt (x := x) (k := 122) (K := 122) rfl (by omega)), F1_12, if_neg (own_nlt (x := x) (k := 65) (K := 65) rfl (by omega)), F1_18, if_pos (own_gt (x := x) (k := 90) (K := 90) rfl (by omega)), F1_24, if_neg (own_neq (x := x) (k := 95) (K := 95) rfl (by omega)), F1_30, if_neg (own_nlt (x := x) (k := 192) (K := 192) rfl (by omega)), F1_37, if_pos (own_gt (x := x) (k := 214) (K := 214) rfl (by omega)), F1_44, if_neg (own_nlt (x := x) (k := 216) (K := 216) rfl (by omega)), F1_51, if_pos (own_gt (x := x) (k := 246) (K := 246) rfl (by omega)), F1_58, if_neg (own_nlt (x := x) (k := 248) (K := 248) rfl (by omega)), F1_65, if_pos (own_gt (x := x) (k := 767) (K := 767) rfl (by omega)), F1_72, if_neg (own_nlt (x := x) (k := 880) (K := 880) rfl (by omega)), F1_79, if_pos (own_gt (x := x) (k := 893) (K := 893) rfl (by omega)), F1_86, if_neg (own_nlt (x := x) (k := 895) (K := 895) rfl (by omega)), F1_93, if_pos (own_gt (x := x) (k := 8191) (K := 8191) rfl (by omega)), F1_100, if_neg (own_nlt (x := x) (k := 8204) (K := 8204) rfl (by omega)), F1_107, if_pos (own_gt (x := x) (k := 8205) (K := 8205) rfl (by omega)), F1_114, if_neg (own_nlt (x := x) (k := 8304) (K := 8304) rfl (by omega)), F1_121, if_pos (own_gt (x := x) (k := 8591) (K := 8591) rfl (by omega)), F1_128, if_neg (own_nlt (x := x) (k := 11264) (K := 11264) rfl (by omega)), F1_135, if_pos (own_gt (x := x) (k := 12271) (K := 12271) rfl (by omega)), F1_142, if_pos (own_lt (x := x) (k := 12289) (K := 12289) rfl (by omega)), F1_155, if_pos (own_lt (x := x) (k := 63744) (K := 63744) rfl (by omega)), F1_167, if_pos (own_lt (x := x) (k := 65008) (K := 65008) rfl (by omega)), F1_179, if_pos (own_lt (x := x) (k := 65536) (K := 65536) rfl (by omega)), F1_195, F2_0, if_neg (own_nlt (x := x) (k := 65) (K := 65) rfl (by omega)), F2_8, if_neg (own_nlt (x := x) (k := 91) (K := 91) rfl (by omega)), F2_14, if_pos (own_gt (x := x) (k := 94) (K := 94) rfl (by omega)), F2_22, if_neg (own_neq (x := x) (k := 96) (K := 96) rfl (by omega)), F2_30, if_neg (own_nlt (x := x) (k := 123) (K := 123) rfl (by omega)), F2_36, if_pos (own_gt (x := x) (k := 191) (K := 191) rfl (by omega)), F2_45, if_neg (own_neq (x := x) (k := 215) (K := 215) rfl (by omega)), F2_52, if_neg (own_neq (x := x) (k := 247) (K := 247) rfl (by omega)), F2_61, if_neg (own_nlt (x := x) (k := 768) (K := 768) rfl (by omega)), F2_68, if_pos (own_gt (x := x) (k := 879) (K := 879) rfl (by omega)), F2_77, if_neg (own_neq (x := x) (k := 894) (K := 894) rfl (by omega)), F2_86, if_neg (own_nlt (x := x) (k := 8192) (K := 8192) rfl (by omega)), F2_93, if_pos (own_gt (x := x) (k := 8203) (K := 8203) rfl (by omega)), F2_102, if_neg (own_nlt (x := x) (k := 8206) (K := 8206) rfl (by omega)), F2_109, if_pos (own_gt (x := x) (k := 8303) (K := 8303) rfl (by omega)), F2_118, if_neg (own_nlt (x := x) (k := 8592) (K := 8592) rfl (by omega)), F2_125, if_pos (own_gt (x := x) (k := 11263) (K := 11263) rfl (by omega)), F2_134, if_neg (own_nlt (x := x) (k := 12272) (K := 12272) rfl (by omega)), F2_141, if_neg (own_ngt (x := x) (k := 12288) (K := 12288) rfl (by omega)), F2_148]
    first | exact Or.inl ⟨rfl, rfl⟩ | exact Or.inr ⟨rfl, rfl⟩
  by_cases h23 : x.toInt < 55296
  · rw [F1_0, if_neg (own_nlt (x := x) (k := 97) (K := 97) rfl (by omega)), F1_6, if_pos (own_gt (x := x) (k := 122) (K := 122) rfl (by omega)), F1_12, if_neg (own_nlt (x := x) (k := 65) (K := 65) rfl (by omega)), F1_18, if_pos (own_gt (x := x) (k := 90) (K := 90) rfl (by omega)), F1_24, if_neg (own_neq (x := x) (k := 95) (K := 95) rfl (by omega)), F1_30, if_neg (own_nlt (x := x) (k := 192) (K := 192) rfl (by omega)), F1_37, if_pos (own_gt (x := x) (k := 214) (K := 214) rfl (by omega)), F1_44, if_neg (own_nlt (x := x) (k := 216) (K := 216) rfl (by omega)), F1_51, if_pos (own_gt (x := x) (k := 246) (K := 246) rfl (by omega)), F1_58, if_neg (own_nlt (x := x) (k := 248) (K := 248) rfl (by omega)), F1_65, if_pos (own_gt (x := x) (k := 767) (K := 767) rfl (by omega)), F1_72, if_neg (own_nlt (x := x) (k := 880) (K := 880) rfl (by omega)), F1_79, if_pos (own_gt (x := x) (k := 893) (K := 893) rfl (by omega)), F1_86, if_neg (own_nlt (x := x) (k := 895) (K := 895) rfl (by omega)), F1_93, if_pos (own_gt (x := x) (k := 8191) (K := 8191) rfl (by omega)), F1_100, if_neg (own_nlt (x := x) (k := 8204) (K := 8204) rfl (by omega)), F1_107, if_pos (own_gt (x := x) (k := 8205) (K := 8205) rfl (by omega)), F1_114, if_neg (own_nlt (x := x) (k := 8304) (K := 8304) rfl (by omega)), F1_121, if_pos (own_gt (x := x) (k := 8591) (K := 8591) rfl (by omega)), F1_128, if_neg (own_nlt (x := x) (k := 11264) (K := 11264) rfl (by omega)), F1_135, if_pos (own_gt (x := x) (k := 12271) (K := 12271) rfl (by omega)), F1_142, if_neg (own_nlt (x := x) (k := 12289) (K := 12289) rfl (by omega)), F1_149, if_neg (own_ngt (x := x) (k := 55295) (K := 55295) rfl (by omega)), F1_191, F2_0, if_neg (own_nlt (x := x) (k := 65) (K := 65) rfl (by omega)), F2_8, if_neg (own_nlt (x := x) (k := 91) (K := 91) rfl (by omega)), F2_14, if_pos (own_gt (x := x) (k := 94) (K := 94) rfl (by omega)), F2_22, if_neg (own_neq (x := x) (k := 96) (K := 96) rfl (by omega)), F2_30, if_neg (own_nlt (x := x) (k := 123) (K := 123) rfl (by omega)), F2_36, if_pos (own_gt (x := x) (k := 191) (K := 191) rfl (by omega)), F2_45, if_neg (own_neq (x := x) (k := 215) (K := 215) rfl (by omega)), F2_52, if_neg (own_neq (x := x) (k := 247) (K := 247) rfl (by omega)), F2_61, if_neg (own_nlt (x := x) (k := 768) (K := 768) rfl (by omega)), F2_68, if_pos (own_gt (x := x) (k := 879) (K := 879) rfl (by omega)), F2_77, if_neg (own_neq (x := x) (k := 894) (K := 894) rfl (by omega)), F2_86, if_neg (own_nlt (x := x) (k := 8192) (K := 8192) rfl (by omega)), F2_93, if_pos (own_gt (x := x) (k := 8203) (K := 8203) rfl (by omega)), F2_102, if_neg (own_nlt (x := x) (k := 8206) (K := 8206) rfl (by omega)), F2_109, if_pos (own_gt (x := x) (k := 8303) (K := 8303) rfl (by omega)), F2_118, if_neg (own_nlt (x := x) (k := 8592) (K := 8592) rfl (by omega)), F2_125, if_pos (own_gt (x := x) (k := 11263) (K := 11263) rfl (by omega)), F2_134, if_neg (own_nlt (x := x) (k := 12272) (K := 12272) rfl (by omega)), F2_141, if_pos (own_gt (x := x) (k := 12288) (K := 12288) rfl (by omega)), F2_150, if_pos (own_lt (x := x) (k := 55296) (K := 55296) rfl (by omega)), F2_164, if_pos (own_lt (x := x) (k := 64976) (K := 64976) rfl (by omega)), F2_178, if_neg (own_neq (x := x) (k := 65534) (K := 65534) rfl (by omega)), F2_184, if_neg (own_neq (x := x) (k := 65535) (K := 65535) rfl (by omega)), F2_192, if_pos (own_lt (x := x) (k := 983040) (K := 983040) rfl (by omega)), F2_202]
    first | exact Or.inl ⟨rfl, rfl⟩ | exact Or.inr ⟨rfl, rfl⟩
  by_cases h24 : x.toInt < 63744
  · rw [F1_0, if_neg (own_nlt (x := x) (k := 97) (K := 97) rfl (by omega)), F1_6, if_pos (own_gt (x := x) (k := 122) (K := 122) rfl (by omega)), F1_12, if_neg (own_nlt (x := x) (k := 65) (K := 65) rfl (by omega)), F1_18, if_pos (own_gt (x := x) (k := 90) (K := 90) rfl (by omega)), F1_24, if_neg (own_neq (x := x) (k := 95) (K := 95) rfl (by omega)), F1_30, if_neg (own_nlt (x := x) (k := 192) (K := 192) rfl (by omega)), F1_37, if_pos (own_gt (x := x) (k := 214) (K := 214) rfl (by omega)), F1_44, if_neg (own_nlt (x := x) (k := 216) (K := 216) rfl (by omega)), F1_51, if_pos (own_gt (x := x) (k := 246) (K := 246) rfl (by omega)), F1_58, if_neg (own_nlt (x := x) (k := 248) (K := 248) rfl (by omega)), F1_65, if_pos (own_gt (x := x) (k := 767) (K := 767) rfl (by omega)), F1_72, if_neg (own_nlt (x := x) (k := 880) (K := 880) rfl (by omega)), F1_79, if_pos (own_gt (x := x) (k := 893) (K := 893) rfl (by omega)), F1_86, if_neg (own_nlt (x := x) (k := 895) (K := 895) rfl (by omega)), F1_93, if_pos (own_gt (x := x) (k := 8191) (K := 8191) rfl (by omega)), F1_100, if_neg (own_nlt (x := x) (k := 8204) (K := 8204) rfl (by omega)), F1_107, if_pos (own_gt (x := x) (k := 8205) (K := 8205) rfl (by omega)), F1_114, if_neg (own_nlt (x := x) (k := 8304) (K := 8304) rfl (by omega)), F1_121, if_pos (own_gt (x := x) (k := 8591) (K := 8591) rfl (by omega)), F1_128, if_neg (own_nlt (x := x) (k := 11264) (K := 11264) rfl (by omega)), F1_135, if_pos (own_gt (x := x) (k := 12271) (K := 12271) rfl (by omega)), F1_142, if_neg (own_nlt (x := x) (k := 12289) (K := 12289) rfl (by omega)), F1_149, if_pos (own_gt (x := x) (k := 55295) (K := 55295) rfl (by omega)), F1_155, if_pos (own_lt (x := x) (k := 63744) (K := 63744) rfl (by omega)), F1_167, if_pos (own_lt (x := x) (k := 65008) (K := 65008) rfl (by omega)), F1_179, if_pos (own_lt (x := x) (k := 65536) (K := 65536) rfl (by omega)), F1_195, F2_0, if_neg (own_nlt (x := x) (k := 65) (K := 65) rfl (by omega)), F2_8, if_neg (own_nlt (x := x) (k := 91) (K := 91) rfl (by omega)), F2_14, if_pos (own_gt (x := x) (k := 94) (K := 94) rfl (by omega)), F2_22, if_neg (own_neq (x := x) (k := 96) (K := 96) rfl (by omega)), F2_30, if_neg (own_nlt (x := x) (k := 123) (K := 123) rfl (by omega)), F2_36, if_pos (own_gt (x := x) (k := 191) (K := 191) rfl (by omega)), F2_45, if_neg (own_neq (x := x) (k := 215) (K := 215) rfl (by omega)), F2_52, if_neg (own_neq (x := x) (k := 247) (K := 247) rfl (by omega)), F2_61, if_neg (own_nlt (x := x) (k := 768) (K := 768) rfl (by omega)), F2_68, if_pos (own_gt (x := x) (k := 879) (K := 879) rfl (by omega)), F2_77, if_neg (own_neq (x := x) (k := 894) (K := 894) rfl (by omega)), F2_86, if_neg (own_nlt (x := x) (k := 8192) (K := 8192) rfl (by omega)), F2_93, if_pos (own_gt (x := x) (k := 8203) (K := 8203) rfl (by omega)), F2_102, if_neg (own_nlt (x := x) (k := 8206) (K := 8206) rfl (by omega)), F2_109, if_pos (own_gt (x := x) (k := 8303) (K := 8303) rfl (by omega)), F2_118, if_neg (own_nlt (x := x) (k := 8592) (K := 8592) rfl (by omega)), F2_125, if_pos (own_gt (x := x) (k := 11263) (K := 11263) rfl (by omega)), F2_134, if_neg (own_nlt (x := x) (k := 12272) (K := 12272) rfl (by omega)), F2_141, if_pos (own_gt (x := x) (k := 12288) (K := 12288) rfl (by omega)), F2_150, if_neg (own_nlt (x := x) (k := 55296) (K := 55296) rfl (by omega)), F2_156, if_neg (own_ngt (x := x) (k := 63743) (K := 63743) rfl (by omega)), F2_162]
    first | exact Or.inl ⟨rfl, rfl⟩ | exact Or.inr ⟨rfl, rfl⟩
  by_cases h25 : x.toInt < 64976
  · rw [F1_0, if_neg (own_nlt (x := x) (k := 97) (K := 97) rfl (by omega)), F1_6, if_pos (own_gt (x := x) (k := 122) (K := 122) rfl (by omega)), F1_12, if_neg (own_nlt (x := x) (k := 65) (K := 65) rfl (by omega)), F1_18, if_pos (own_gt (x := x) (k := 90) (K := 90) rfl (by omega)), F1_24, if_neg (own_neq (x := x) (k := 95) (K := 95) rfl (by omega)), F1_30, if_neg (own_nlt (x := x) (k := 192) (K := 192) rfl (by omega)), F1_37, if_pos (own_gt (x := x) (k := 214) (K := 214) rfl (by omega)), F1_44, if_neg (own_nlt (x := x) (k := 216) (K := 216) rfl (by omega)), F1_51, if_pos (own_gt (x := x) (k := 246) (K := 246) rfl (by omega)), F1_58, if_neg (own_nlt (x := x) (k := 248) (K := 248) rfl (by omega)), F1_65, if_pos (own_gt (x := x) (k := 767) (K := 767) rfl (by omega)), F1_72, if_neg (own_nlt (x := x) (k := 880) (K := 880) rfl (by omega)), F1_79, if_pos (own_gt (x := x) (k := 893) (K := 893) rfl (by omega)), F1_86, if_neg (own_nlt (x := x) (k := 895) (K := 895) rfl (by omega)), F1_93, if_pos (own_gt (x := x) (k := 8191) (K := 8191) rfl (by omega)), F1_100, if_neg (own_nlt (x := x) (k := 8204) (K := 8204) rfl (by omega)), F1_107, if_pos (own_gt (x := x) (k := 8205) (K := 8205) rfl (by omega)), F1_114, if_neg (own_nlt (x := x) (k := 8304) (K := 8304) rfl (by omega)), F1_121, if_pos (own_gt (x := x) (k := 8591) (K := 8591) rfl (by omega)), F1_128, if_neg (own_nlt (x := x) (k := 11264) (K := 11264) rfl (by omega)), F1_135, if_pos (own_gt (x := x) (k := 12271) (K := 12271) rfl (by omega)), F1_142, if_neg (own_nlt (x := x) (k := 12289) (K := 12289) rfl (by omega)), F1_149, if_pos (own_gt (x := x) (k := 55295) (K := 55295) rfl (by omega)), F1_155, if_neg (own_nlt (x := x) (k := 63744) (K := 63744) rfl (by omega)), F1_161, if_neg (own_ngt (x := x) (k := 64975) (K := 64975) rfl (by omega)), F1_191, F2_0, if_neg (own_nlt (x := x) (k := 65) (K := 65) rfl (by omega)), F2_8, if_neg (own_nlt (x := x) (k := 91) (K := 91) rfl (by omega)), F2_14, if_pos (own_gt (x := x) (k := 94) (K := 94) rfl (by omega)), F2_22, if_neg (own_neq (x := x) (k := 96) (K := 96) rfl (by omega)), F2_30, if_neg (own_nlt (x := x) (k := 123) (K := 123) rfl (by omega)), F2_36, if_pos (own_gt (x := x) (k := 191) (K := 191) rfl (by omega)), F2_45, if_neg (own_neq (x := x) (k := 215) (K := 215) rfl (by omega)), F2_52, if_neg (own_neq (x := x) (k := 247) (K := 247) rfl (by omega)), F2_61, if_neg (own_nlt (x := x) (k := 768) (K := 768) rfl (by omega)), F2_68, if_pos (own_gt (x := x) (k := 879) (K := 879) rfl (by omega)), F2_77, if_neg (own_neq (x := x) (k := 894) (K := 894) rfl (by omega)), F2_86, if_neg (own_nlt (x := x) (k := 8192) (K := 8192) rfl (by omega)), F2_93, if_pos (own_gt (x := x) (k := 8203) (K := 8203) rfl (by omega)), F2_102, if_neg (own_nlt (x := x) (k := 8206) (K := 8206) rfl (by omega)), F2_109, if_pos (own_gt (x := x) (k := 8303) (K := 8303) rfl (by omega)), F2_118, if_neg (own_nlt (x := x) (k := 8592) (K := 8592) rfl (by omega)), F2_125, if_pos (own_gt (x := x) (k := 11263) (K := 11263) rfl (by omega)), F2_134, if_neg (own_nlt (x := x) (k := 12272) (K := 12272) rfl (by omega)), F2_141, if_pos (own_gt (x := x) (k := 12288) (K := 12288) rfl (by omega)), F2_150, if_neg (own_nlt (x := x) (k := 55296) (K := 55296) rfl (by omega)), F2_156, if_pos (own_gt (x := x) (k := 63743) (K := 63743) rfl (by omega)), F2_164, if_pos (own_lt (x := x) (k := 64976) (K := 64976) rfl (by omega)), F2_178, if_neg (own_neq (x := x) (k := 65534) (K := 65534) rfl (by omega)), F2_184, if_neg (own_neq (x := x) (k := 65535) (K := 65535) rfl (by omega)), F2_192, if_pos (own_lt (x := x) (k := 983040) (K := 983040) rfl (by omega)), F2_202]
    first | exact Or.inl ⟨rfl, rfl⟩ | exact Or.inr ⟨rfl, rfl⟩
  by_cases h26 : x.toInt < 65008
  · rw [F1_0, if_neg (own_nlt (x := x) (k := 97) (K := 97) rfl (by omega)), F1_6, if_pos (own_gt (x := x) (k := 122) (K := 122) rfl (by omega)), F1_12, if_neg (own_nlt (x := x) (k := 65) (K := 65) rfl (by omega)), F1_18, if_pos (own_gt (x := x) (k := 90) (K := 90) rfl (by omega)), F1_24, if_neg (own_neq (x := x) (k := 95) (K := 95) rfl (by omega)), F1_30, if_neg (own_nlt (x := x) (k := 192) (K := 192) rfl (by omega)), F1_37, if_pos (own_gt (x := x) (k := 214) (K := 214) rfl (by omega)), F1_44, if_neg (own_nlt (x := x) (k := 216) (K := 216) rfl (by omega)), F1_51, if_pos (own_gt (x := x) (k := 246) (K := 246) rfl (by omega)), F1_58, if_neg (own_nlt (x := x) (k := 248) (K := 248) rfl (by omega)), F1_65, if_pos (own_gt (x := x) (k := 767) (K := 767) rfl (by omega)), F1_72, if_neg (own_nlt (x := x) (k := 880) (K := 880) rfl (by omega)), F1_79, if_pos (own_gt (x := x) (k := 893) (K := 893) rfl (by omega)), F1_86, if_neg (own_nlt (x := x) (k := 895) (K := 895) rfl (by omega)), F1_93, if_pos (own_gt (x := x) (k := 8191) (K := 8191) rfl (by omega)), F1_100, if_neg (own_nlt (x := x) (k := 8204) (K := 8204) rfl (by omega)), F1_107, if_pos (own_gt (x := x) (k := 8205) (K := 8205) rfl (by omega)), F1_114, if_neg (own_nlt (x := x) (k := 8304) (K := 8304) rfl (by omega)), F1_121, if_pos (own_gt (x := x) (k := 8591) (K := 8591) rfl (by omega)), F1_128, if_neg (own_nlt (x := x) (k := 11264) (K := 11264) rfl (by omega)), F1_135, if_pos (own_gt (x := x) (k := 12271) (K := 12271) rfl (by omega)), F1_142, if_neg (own_nlt (x := x) (k := 12289) (K := 12289) rfl (by omega)), F1_149, if_pos (own_gt (x := x) (k := 55295) (K := 55295) rfl (by omega)), F1_155, if_neg (own_nlt (x := x) (k := 63744) (K := 63744) rfl (by omega)), F1_161, if_pos (own_gt (x := x) (k := 64975) (K := 64975) rfl (by omega)), F1_167, if_pos (own_lt (x := x) (k := 65008) (K := 65008) rfl (by omega)), F1_179, if_pos (own_lt (x := x) (k := 65536) (K := 65536) rfl (by omega)), F1_195, F2_0, if_neg (own_nlt (x := x) (k := 65) (K := 65) rfl (by omega)), F2_8, if_neg (own_nlt (x := x) (k := 91) (K := 91) rfl (by omega)), F2_14, if_pos (own_gt (x := x) (k := 94) (K := 94) rfl (by omega)), F2_22, if_neg (own_neq (x := x) (k := 96) (K := 96) rfl (by omega)), F2_30, if_neg (own_nlt (x := x) (k := 123) (K := 123) rfl (by omega)), F2_36, if_pos (own_gt (x := x) (k := 191) (K := 191) rfl (by omega)), F2_45, if_neg (own_neq (x := x) (k := 215) (K := 215) rfl (by omega)), F2_52, if_neg (own_neq (x := x) (k := 247) (K := 247) rfl (by omega)), F2_61, if_neg (own_nlt (x := x) (k := 768) (K := 768) rfl (by omega)), F2_68, if_pos (own_gt (x := x) (k := 879) (K := 879) rfl (by omega)), F2_77, if_neg (own_neq (x := x) (k := 894) (K := 894) rfl (by omega)), F2_86, if_neg (own_nlt (x := x) (k := 8192) (K := 8192) rfl (by omega)), F2_93, if_pos (own_gt (x := x) (k := 8203) (K := 8203) rfl (by omega)), F2_102, if_neg (own_nlt (x := x) (k := 8206) (K := 8206) rfl (by omega)), F2_109, if_pos (own_gt (x := x) (k := 8303) (K := 8303) rfl (by omega)), F2_118, if_neg (own_nlt (x := x) (k := 8592) (K := 8592) rfl (by omega)), F2_125, if_pos (own_gt (x := x) (k := 11263) (K := 11263) rfl (by omega)), F2_134, if_neg (own_nlt (x := x) (k := 12272) (K := 12272) rfl (by omega)), F2_141, if_pos (own_gt (x := x) (k := 12288) (K := 12288) rfl (by omega)), F2_150, if_neg (own_nlt (x := x) (k := 55296) (K := 55296) rfl (by omega)), F2_156, if_pos (own_gt (x := x) (k := 63743) (K := 63743) rfl (by omega)), F2_164, if_neg (own_nlt (x := x) (k := 64976) (K := 64976) rfl (by omega)), F2_170, if_neg (own_ngt (x := x) (k := 65007) (K := 65007) rfl (by omega)), F2_176]
    first | exact Or.inl ⟨rfl, rfl⟩ | exact Or.inr ⟨rfl, rfl⟩
  by_cases h27 : x.toInt < 65534
  · rw [F1_0, if_neg (own_nlt (x := x) (k := 97) (K := 97) rfl (by omega)), F1_6, if_pos (own_gt (x := x) (k := 122) (K := 122) rfl (by omega)), F1_12, if_neg (own_nlt (x := x) (k := 65) (K := 65) rfl (by omega)), F1_18, if_pos (own_gt (x := x) (k := 90) (K := 90) rfl (by omega)), F1_24, if_neg (own_neq (x := x) (k := 95) (K := 95) rfl (by omega)), F1_30, if_neg (own_nlt (x := x) (k := 192) (K := 192) rfl (by omega)), F1_37, if_pos (own_gt (x := x) (k := 214) (K := 214) rfl (by omega)), F1_44, if_neg (own_nlt (x := x) (k := 216) (K := 216) rfl (by omega)), F1_51, if_pos (own_gt (x := x) (k := 246) (K := 246) rfl (by omega)), F1_58, if_neg (own_nlt (x := x) (k := 248) (K := 248) rfl (by omega)), F1_65, if_pos (own_gt (x := x) (k := 767) (K := 767) rfl (by omega)), F1_72, if_neg (own_nlt (x := x) (k := 880) (K := 880) rfl (by omega)), F1_79, if_pos (own_gt (x := x) (k := 893) (K := 893) rfl (by omega)), F1_86, if_neg (own_nlt (x := x) (k := 895) (K := 895) rfl (by omega)), F1_93, if_pos (own_gt (x := x) (k := 8191) (K := 8191) rfl (by omega)), F1_100, if_neg (own_nlt (x := x) (k := 8204) (K := 8204) rfl (by omega)), F1_107, if_pos (own_gt (x := x) (k := 8205) (K := 8205) rfl (by omega)), F1_114, if_neg (own_nlt (x := x) (k := 8304) (K := 8304) rfl (by omega)), F1_121, if_pos (own_gt (x := x) (k := 8591) (K := 8591) rfl (by omega)), F1_128, if_neg (own_nlt (x := x) (k := 11264) (K := 11264) rfl (by omega)), F1_135, if_pos (own_gt (x := x) (k := 12271) (K := 12271) rfl (by omega)), F1_142, if_neg (own_nlt (x := x) (k := 12289) (K := 12289) rfl (by omega)), F1_149, if_pos (own_gt (x := x) (k := 55295) (K := 55295) rfl (by omega)), F1_155, if_neg (own_nlt (x := x) (k := 63744) (K := 63744) rfl (by omega)), F1_161, if_pos (own_gt (x := x) (k := 64975) (K := 64975) rfl (by omega)), F1_167, if_neg (own_nlt (x := x) (k := 65008) (K := 65008) rfl (by omega)), F1_173, if_neg (own_ngt (x := x) (k := 65533) (K := 65533) rfl (by omega)), F1_191, F2_0, if_neg (own_nlt (x := x) (k := 65) (K := 65) rfl (by omega)), F2_8, if_neg (own_nlt (x := x) (k := 91) (K := 91) rfl (by omega)), F2_14, if_pos (own_gt (x := x) (k := 94) (K := 94) rfl (by omega)), F2_22, if_neg (own_neq (x := x) (k := 96) (K := 96) rfl (by omega)), F2_30, if_neg (own_nlt (x := x) (k := 123) (K := 123) rfl (by omega)), F2_36, if_pos (own_gt (x := x) (k := 191) (K := 191) rfl (by omega)), F2_45, if_neg (own_neq (x := x) (k := 215) (K := 215) rfl (by omega)), F2_52, if_neg (own_neq (x := x) (k := 247) (K := 247) rfl (by omega)), F2_61, if_neg (own_nlt (x := x) (k := 768) (K := 768) rfl (by omega)), F2_68, if_pos (own_gt (x := x) (k := 879) (K := 879) rfl (by omega)), F2_77, if_neg (own_neq (x := x) (k := 894) (K := 894) rfl (by omega)), F2_86, if_neg (own_nlt (x := x) (k := 8192) (K := 8192) rfl (by omega)), F2_93, if_pos (own_gt (x := x) (k := 8203) (K := 8203) rfl (by omega)), F2_102, if_neg (own_nlt (x := x) (k := 8206) (K := 8206) rfl (by omega)), F2_109, if_pos (own_gt (x := x) (k := 8303) (K := 8303) rfl (by omega)), F2_118, if_neg (own_nlt (x := x) (k := 8592) (K := 8592) rfl (by omega)), F2_125, if_pos (own_gt (x := x) (k := 11263) (K := 11263) rfl (by omega)), F2_134, if_neg (own_nlt (x := x) (k := 12272) (K := 12272) rfl (by omega)), F2_141, if_pos (own_gt (x := x) (k := 12288) (K := 12288) rfl (by omega)), F2_150, if_neg (own_nlt (x := x) (k := 55296) (K := 55296) rfl (by omega)), F2_156, if_pos (own_gt (x := x) (k := 63743) (K := 63743) rfl (by omega)), F2_164, if_neg (own_nlt (x := x) (k := 64976) (K := 64976) rfl (by omega)), F2_170, if_pos (own_gt (x := x) (k := 65007) (K := 65007) rfl (by omega)), F2_178, if_neg (own_neq (x := x) (k := 65534) (K := 65534) rfl (by omega)), F2_184, if_neg (own_neq (x := x) (k := 65535) (K := 65535) rfl (by omega)), F2_192, if_pos (own_lt (x := x) (k := 983040) (K := 983040) rfl (by omega)), F2_202]
    first | exact Or.inl ⟨rfl, rfl⟩ | exact Or.inr ⟨rfl, rfl⟩
  by_cases h28 : x.toInt < 65535
  · rw [F1_0, if_neg (own_nlt (x := x) (k := 97) (K := 97) rfl (by omega)), F1_6, if_pos (own_gt (x := x) (k := 122) (K := 122) rfl (by omega)), F1_12, if_neg (own_nlt (x := x) (k := 65) (K := 65) rfl (by omega)), F1_18, if_pos (own_gt (x := x) (k := 90) (K := 90) rfl (by omega)), F1_24, if_neg (own_neq (x := x) (k := 95) (K := 95) rfl (by omega)), F1_30, if_neg (own_nlt (x := x) (k := 192) (K := 192) rfl (by omega)), F1_37, if_pos (own_gt (x := x) (k := 214) (K := 214) rfl (by omega)), F1_44, if_neg (own_nlt (x := x) (k := 216) (K := 216) rfl (by omega)), F1_51, if_pos (own_gt (x := x) (k := 246) (K := 246) rfl (by omega)), F1_58, if_neg (own_nlt (x := x) (k := 248) (K := 248) rfl (by omega)), F1_65, if_pos (own_gt (x := x) (k := 767) (K := 767) rfl (by omega)), F1_72, if_neg (own_nlt (x := x) (k := 880) (K := 880) rfl (by omega)), F1_79, if_pos (own_gt (x := x) (k := 893) (K := 893) rfl (by omega)), F1_86, if_neg (own_nlt (x := x) (k := 895) (K := 895) rfl (by omega)), F1_93, if_pos (own_gt (x := x) (k := 8191) (K := 8191) rfl (by omega)), F1_100, if_neg (own_nlt (x := x) (k := 8204) (K := 8204) rfl (by omega)), F1_107, if_pos (own_gt (x := x) (k := 8205) (K := 8205) rfl (by omega)), F1_114, if_neg (own_nlt (x := x) (k := 8304) (K := 8304) rfl (by omega)), F1_121, if_pos (own_gt (x := x) (k := 8591) (K := 8591) rfl (by omega)), F1_128, if_neg (own_nlt (x := x) (k := 11264) (K := 11264) rfl (by omega)), F1_135, if_pos (own_gt (x := x) (k := 12271) (K := 12271) rfl (by omega)), F1_142, if_neg (own_nlt (x := x) (k := 12289) (K := 12289) rfl (by omega)), F1_149, if_pos (own_gt (x := x) (k := 55295) (K := 55295) rfl (by omega)), F1_155, if_neg (own_nlt (x := x) (k := 63744) (K := 63744) rfl (by omega)), F1_161, if_pos (own_gt (x := x) (k := 64975) (K := 64975) rfl (by omega)), F1_167, if_neg (own_nlt (x := x) (k := 65008) (K := 65008) rfl (by omega)), F1_173, if_pos (own_gt (x := x) (k := 65533) (K := 65533) rfl (by omega)), F1_179, if_pos (own_lt (x := x) (k := 65536) (K := 65536) rfl (by omega)), F1_195, F2_0, if_neg (own_nlt (x := x) (k := 65) (K := 65) rfl (by omega)), F2_8, if_neg (own_nlt (x := x) (k := 91) (K := 91) rfl (by omega)), F2_14, if_pos (own_gt (x := x) (k := 94) (K := 94) rfl (by omega)), F2_22, if_neg (own_neq (x := x) (k := 96) (K := 96) rfl (by omega)), F2_30, if_neg (own_nlt (x := x) (k := 123) (K := 123) rfl (by omega)), F2_36, if_pos (own_gt (x := x) (k := 191) (K := 191) rfl (by omega)), F2_45, if_neg (own_neq (x := x) (k := 215) (K := 215) rfl (by omega)), F2_52, if_neg (own_neq (x := x) (k := 247) (K := 247) rfl (by omega)), F2_61, if_neg (own_nlt (x := x) (k := 768) (K := 768) rfl (by omega)), F2_68, if_pos (own_gt (x := x) (k := 879) (K := 879) rfl (by omega)), F2_77, if_neg (own_neq (x := x) (k := 894) (K := 894) rfl (by omega)), F2_86, if_neg (own_nlt (x := x) (k := 8192) (K := 8192) rfl (by omega)), F2_93, if_pos (own_gt (x := x) (k := 8203) (K := 8203) rfl (by omega)), F2_102, if_neg (own_nlt (x := x) (k := 8206) (K := 8206) rfl (by omega)), F2_109, if_pos (own_gt (x := x) (k := 8303) (K := 8303) rfl (by omega)), F2_118, if_neg (own_nlt (x := x) (k := 8592) (K := 8592) rfl (by omega)), F2_125, if_pos (own_gt (x := x) (k := 11263) (K := 11263) rfl (by omega)), F2_134, if_neg (own_nlt (x := x) (k := 12272) (K := 12272) rfl (by omega)), F2_141, if_pos (own_gt (x := x) (k := 12288) (K := 12288) rfl (by omega)), F2_150, if_neg (own_nlt (x := x) (k := 55296) (K := 55296) rfl (by omega)), F2_156, if_pos (own_gt (x := x) (k := 63743) (K := 63743) rfl (by omega)), F2_164, if_neg (own_nlt (x := x) (k := 64976) (K := 64976) rfl (by omega)), F2_170, if_pos (own_gt (x := x) (k := 65007) (K := 65007) rfl (by omega)), F2_178, if_pos (own_eq (x := x) (k := 65534) (K := 65534) rfl (by omega)), F2_190]
    first | exact Or.inl ⟨rfl, rfl⟩ | exact Or.inr ⟨rfl, rfl⟩
  by_cases h29 : x.toInt < 65536
  · rw [F1_0, if_neg (own_nlt (x := x) (k := 97) (K := 97) rfl (by omega)), F1_6, if_pos (own_gt (x := x) (k := 122) (K := 122) rfl (by omega)), F1_12, if_neg (own_nlt (x := x) (k := 65) (K := 65) rfl (by omega)), F1_18, if_pos (own_gt (x := x) (k := 90) (K := 90) rfl (by omega)), F1_24, if_neg (own_neq (x := x) (k := 95) (K := 95) rfl (by omega)), F1_30, if_neg (own_nlt (x := x) (k := 192) (K := 192) rfl (by omega)), F1_37, if_pos (own_gt (x := x) (k := 214) (K := 214) rfl (by omega)), F1_44, if_neg (own_nlt (x := x) (k := 216) (K := 216) rfl (by omega)), F1_51, if_pos (own_gt (x := x) (k := 246) (K := 246) rfl (by omega)), F1_58, if_neg (own_nlt (x := x) (k := 248) (K := 248) rfl (by omega)), F1_65, if_pos (own_gt (x := x) (k := 767) (K := 767) rfl (by omega)), F1_72, if_neg (own_nlt (x := x) (k := 880) (K := 880) rfl (by omega)), F1_79, if_pos (own_gt (x := x) (k := 893) (K := 893) rfl (by omega)), F1_86, if_neg (own_nlt (x := x) (k := 895) (K := 895) rfl (by omega)), F1_93, if_pos (own_gt (x := x) (k := 8191) (K := 8191) rfl (by omega)), F1_100, if_neg (own_nlt (x := x) (k := 8204) (K := 8204) rfl (by omega)), F1_107, if_pos (own_gt (x := x) (k := 8205) (K := 8205) rfl (by omega)), F1_114, if_neg (own_nlt (x := x) (k := 8304) (K := 8304) rfl (by omega)), F1_121, if_pos (own_gt (x := x) (k := 8591) (K := 8591) rfl (by omega)), F1_128, if_neg (own_nlt (x := x) (k := 11264) (K := 11264) rfl (by omega)), F1_135, if_pos (own_gt (x := x) (k := 12271) (K := 12271) rfl (by omega)), F1_142, if_neg (own_nlt (x := x) (k := 12289) (K := 12289) rfl (by omega)), F1_149, if_pos (own_gt (x := x) (k := 55295) (K := 55295) rfl (by omega)), F1_155, if_neg (own_nlt (x := x) (k := 63744) (K := 63744) rfl (by omega)), F1_161, if_pos (own_gt (x := x) (k := 64975) (K := 64975) rfl (by omega)), F1_167, if_neg (own_nlt (x := x) (k := 65008) (K := 65008) rfl (by omega)), F1_173, if_pos (own_gt (x := x) (k := 65533) (K := 65533) rfl (by omega)), F1_179, if_pos (own_lt (x := x) (k := 65536) (K := 65536) rfl (by omega)), F1_195, F2_0, if_neg (own_nlt (x := x) (k := 65) (K := 65) rfl (by omega)), F2_8, if_neg (own_nlt (x := x) (k := 91) (K := 91) rfl (by omega)), F2_14, if_pos (own_gt (x := x) (k := 94) (K := 94) rfl (by omega)), F2_22, if_neg (own_neq (x := x) (k := 96) (K := 96) rfl (by omega)), F2_30, if_neg (own_nlt (x := x) (k := 123) (K := 123) rfl (by omega)), F2_36, if_pos (own_gt (x := x) (k := 191) (K := 191) rfl (by omega)), F2_45, if_neg (own_neq (x := x) (k := 215) (K := 215) rfl (by omega)), F2_52, if_neg (own_neq (x := x) (k := 247) (K := 247) rfl (by omega)), F2_61, if_neg (own_nlt (x := x) (k := 768) (K := 768) rfl (by omega)), F2_68, if_pos (own_gt (x := x) (k := 879) (K := 879) rfl (by omega)), F2_77, if_neg (own_neq (x := x) (k := 894) (K := 894) rfl (by omega)), F2_86, if_neg (own_nlt (x := x) (k := 8192) (K := 8192) rfl (by omega)), F2_93, if_pos (own_gt (x := x) (k := 8203) (K := 8203) rfl (by omega)), F2_102, if_neg (own_nlt (x := x) (k := 8206) (K := 8206) rfl (by omega)), F2_109, if_pos (own_gt (x := x) (k := 8303) (K := 8303) rfl (by omega)), F2_118, if_neg (own_nlt (x := x) (k := 8592) (K := 8592) rfl (by omega)), F2_125, if_pos (own_gt (x := x) (k := 11263) (K := 11263) rfl (by omega)), F2_134, if_neg (own_nlt (x := x) (k := 12272) (K := 12272) rfl (by omega)), F2_141, if_pos (own_gt (x := x) (k := 12288) (K := 12288) rfl (by omega)), F2_150, if_neg (own_nlt (x := x) (k := 55296) (K := 55296) rfl (by omega)), F2_156, if_pos (own_gt (x := x) (k := 63743) (K := 63743) rfl (by omega)), F2_164, if_neg (own_nlt (x := x) (k := 64976) (K := 64976) rfl (by omega)), F2_170, if_pos (own_gt (x := x) (k := 65007) (K := 65007) rfl (by omega)), F2_178, if_neg (own_neq (x := x) (k := 65534) (K := 65534) rfl (by omega)), F2_184, if_pos (own_eq (x := x) (k := 65535) (K := 65535) rfl (by omega)), F2_190]
    first | exact Or.inl ⟨rfl, rfl⟩ | exact Or.inr ⟨rfl, rfl⟩
  by_cases h30 : x.toInt < 983040
  · rw [F1_0, if_neg (own_nlt (x := x) (k := 97) (K := 97) rfl (by omega)), F1_6, if_pos (own_gt (x := x) (k := 122) (K := 122) rfl (by omega)), F1_12, if_neg (own_nlt (x := x) (k := 65) (K := 65) rfl (by omega)), F1_18, if_pos (own_gt (x := x) (k := 90) (K := 90) rfl (by omega)), F1_24, if_neg (own_neq (x := x) (k := 95) (K := 95) rfl (by omega)), F1_30, if_neg (own_nlt (x := x) (k := 192) (K := 192) rfl (by omega)), F1_37, if_pos (own_gt (x := x) (k := 214) (K := 214) rfl (by omega)), F1_44, if_neg (own_nlt (x := x) (k := 216) (K := 216) rfl (by omega)), F1_51, if_pos (own_gt (x := x) (k := 246) (K := 246) rfl (by omega)), F1_58, if_neg (own_nlt (x := x) (k := 248) (K := 248) rfl (by omega)), F1_65, if_pos (own_gt (x := x) (k := 767) (K := 767) rfl (by omega)), F1_72, if_neg (own_nlt (x := x) (k := 880) (K := 880) rfl (by omega)), F1_79, if_pos (own_gt (x := x) (k := 893) (K := 893) rfl (by omega)), F1_86, if_neg (own_nlt (x := x) (k := 895) (K := 895) rfl (by omega)), F1_93, if_pos (own_gt (x := x) (k := 8191) (K := 8191) rfl (by omega)), F1_100, if_neg (own_nlt (x := x) (k := 8204) (K := 8204) rfl (by omega)), F1_107, if_pos (own_gt (x := x) (k := 8205) (K := 8205) rfl (by omega)), F1_114, if_neg (own_nlt (x := x) (k := 8304) (K := 8304) rfl (by omega)), F1_121, if_pos (own_gt (x := x) (k := 8591) (K := 8591) rfl (by omega)), F1_128, if_neg (own_nlt (x := x) (k := 11264) (K := 11264) rfl (by omega)), F1_135, if_pos (own_gt (x := x) (k := 12271) (K := 12271) rfl (by omega)), F1_142, if_neg (own_nlt (x := x) (k := 12289) (K := 12289) rfl (by omega)), F1_149, if_pos (own_gt (x := x) (k := 55295) (K := 55295) rfl (by omega)), F1_155, if_neg (own_nlt (x := x) (k := 63744) (K := 63744) rfl (by omega)), F1_161, if_pos (own_gt (x := x) (k := 64975) (K := 64975) rfl (by omega)), F1_167, if_neg (own_nlt (x := x) (k := 65008) (K := 65008) rfl (by omega)), F1_173, if_pos (own_gt (x := x) (k := 65533) (K := 65533) rfl (by omega)), F1_179, if_neg (own_nlt (x := x) (k := 65536) (K := 65536) rfl (by omega)), F1_185, if_neg (own_ngt (x := x) (k := 983039) (K := 983039) rfl (by omega)), F1_191, F2_0, if_neg (own_nlt (x := x) (k := 65) (K := 65) rfl (by omega)), F2_8, if_neg (own_nlt (x := x) (k := 91) (K := 91) rfl (by omega)), F2_14, if_pos (own_gt (x := x) (k := 94) (K := 94) rfl (by omega)), F2_22, if_neg (own_neq (x := x) (k := 96) (K := 96) rfl (by omega)), F2_30, if_neg (own_nlt (x := x) (k := 123) (K := 123) rfl (by omega)), F2_36, if_pos (own_gt (x := x) (k := 191) (K := 191) rfl (by omega)), F2_45, if_neg (own_neq (x := x) (k := 215) (K := 215) rfl (by omega)), F2_52, if_neg (own_neq (x := x) (k := 247) (K := 247) rfl (by omega)), F2_61, if_neg (own_nlt (x := x) (k := 768) (K := 768) rfl (by omega)), F2_68, if_pos (own_gt (x := x) (k := 879) (K := 879) rfl (by omega)), F2_77, if_neg (own_neq (x := x) (k := 894) (K := 894) rfl (by omega)), F2_86, if_neg (own_nlt (x := x) (k := 8192) (K := 8192) rfl (by omega)), F2_93, if_pos (own_gt (x := x) (k := 8203) (K := 8203) rfl (by omega)), F2_102, if_neg (own_nlt (x := x) (k := 8206) (K := 8206) rfl (by omega)), F2_109, if_pos (own_gt (x := x) (k := 8303) (K := 8303) rfl (by omega)), F2_118, if_neg (own_nlt (x := x) (k := 8592) (K := 8592) rfl (by omega)), F2_125, if_pos (own_gt (x := x) (k := 11263) (K := 11263) rfl (by omega)), F2_134, if_neg (own_nlt (x := x) (k := 12272) (K := 12272) rfl (by omega)), F2_141, if_pos (own_gt (x := x) (k := 12288) (K := 12288) rfl (by omega)), F2_150, if_neg (own_nlt (x := x) (k := 55296) (K := 55296) rfl (by omega)), F2_156, if_pos (own_gt (x := x) (k := 63743) (K := 63743) rfl (by omega)), F2_164, if_neg (own_nlt (x := x) (k := 64976) (K := 64976) rfl (by omega)), F2_170, if_pos (own_gt (x := x) (k := 65007) (K := 65007) rfl (by omega)), F2_178, if_neg (own_neq (x := x) (k := 65534) (K := 65534) rfl (by omega)), F2_184, if_neg (own_neq (x := x) (k := 65535) (K := 65535) rfl (by omega)), F2_192, if_pos (own_lt (x := x) (k := 983040) (K := 983040) rfl (by omega)), F2_202]
    first | exact Or.inl ⟨rfl, rfl⟩ | exact Or.inr ⟨rfl, rfl⟩
  rw [F1_0, if_neg (own_nlt (x := x) (k := 97) (K := 97) rfl (by omega)), F1_6, if_pos (own_gt (x := x) (k := 122) (K := 122) rfl (by omega)), F1_12, if_neg (own_nlt (x := x) (k := 65) (K := 65) rfl (by omega)), F1_18, if_pos (own_gt (x := x) (k := 90) (K := 90) rfl (by omega)), F1_24, if_neg (own_neq (x := x) (k := 95) (K := 95) rfl (by omega)), F1_30, if_neg (own_nlt (x := x) (k := 192) (K := 192) rfl (by omega)), F1_37, if_pos (own_gt (x := x) (k := 214) (K := 214) rfl (by omega)), F1_44, if_neg (own_nlt (x := x) (k := 216) (K := 216) rfl (by omega)), F1_51, if_pos (own_gt (x := x) (k := 246) (K := 246) rfl (by omega)), F1_58, if_neg (own_nlt (x := x) (k := 248) (K := 248) rfl (by omega)), F1_65, if_pos (own_gt (x := x) (k := 767) (K := 767) rfl (by omega)), F1_72, if_neg (own_nlt (x := x) (k := 880) (K := 880) rfl (by omega)), F1_79, if_pos (own_gt (x := x) (k := 893) (K := 893) rfl (by omega)), F1_86, if_neg (own_nlt (x := x) (k := 895) (K := 895) rfl (by omega)), F1_93, if_pos (own_gt (x := x) (k := 8191) (K := 8191) rfl (by omega)), F1_100, if_neg (own_nlt (x := x) (k := 8204) (K := 8204) rfl (by omega)), F1_107, if_pos (own_gt (x := x) (k := 8205) (K := 8205) rfl (by omega)), F1_114, if_neg (own_nlt (x := x) (k := 8304) (K := 8304) rfl (by omega)), F1_121, if_pos (own_gt (x := x) (k := 8591) (K := 8591) rfl (by omega)), F1_128, if_neg (own_nlt (x := x) (k := 11264) (K := 11264) rfl (by omega)), F1_135, if_pos (own_gt (x := x) (k := 12271) (K := 12271) rfl (by omega)), F1_142, if_neg (own_nlt (x := x) (k := 12289) (K := 12289) rfl (by omega)), F1_149, if_pos (own_gt (x := x) (k := 55295) (K := 55295) rfl (by omega)), F1_155, if_neg (own_nlt (x := x) (k := 63744) (K := 63744) rfl (by omega)), F1_161, if_pos (own_gt (x := x) (k := 64975) (K := 64975) rfl (by omega)), F1_167, if_neg (own_nlt (x := x) (k := 65008) (K := 65008) rfl (by omega)), F1_173, if_pos (own_gt (x := x) (k := 65533) (K := 65533) rfl (by omega)), F1_179, if_neg (own_nlt (x := x) (k := 65536) (K := 65536) rfl (by omega)), F1_185, if_pos (own_gt (x := x) (k := 983039) (K := 983039) rfl (by omega)), F1_195, F2_0, if_neg (own_nlt (x := x) (k := 65) (K := 65) rfl (by omega)), F2_8, if_neg (own_nlt (x := x) (k := 91) (K := 91) rfl (by omega)), F2_14, if_pos (own_gt (x := x) (k := 94) (K := 94) rfl (by omega)), F2_22, if_neg (own_neq (x := x) (k := 96) (K := 96) rfl (by omega)), F2_30, if_neg (own_nlt (x := x) (k := 123) (K := 123) rfl (by omega)), F2_36, if_pos (own_gt (x := x) (k := 191) (K := 191) rfl (by omega)), F2_45, if_neg (own_neq (x := x) (k := 215) (K := 215) rfl (by omega)), F2_52, if_neg (own_neq (x := x) (k := 247) (K := 247) rfl (by omega)), F2_61, if_neg (own_nlt (x := x) (k := 768) (K := 768) rfl (by omega)), F2_68, if_pos (own_gt (x := x) (k := 879) (K := 879) rfl (by omega)), F2_77, if_neg (own_neq (x := x) (k := 894) (K := 894) rfl (by omega)), F2_86, if_neg (own_nlt (x := x) (k := 8192) (K := 8192) rfl (by omega)), F2_93, if_pos (own_gt (x := x) (k := 8203) (K := 8203) rfl (by omega)), F2_102, if_neg (own_nlt (x := x) (k := 8206) (K := 8206) rfl (by omega)), F2_109, if_pos (own_gt (x := x) (k := 8303) (K := 8303) rfl (by omega)), F2_118, if_neg (own_nlt (x := x) (k := 8592) (K := 8592) rfl (by omega)), F2_125, if_pos (own_gt (x := x) (k := 11263) (K := 11263) rfl (by omega)), F2_134, if_neg (own_nlt (x := x) (k := 12272) (K := 12272) rfl (by omega)), F2_141, if_pos (own_gt (x := x) (k := 12288) (K := 12288) rfl (by omega)), F2_150, if_neg (own_nlt (x := x) (k := 55296) (K := 55296) rfl (by omega)), F2_156, if_pos (own_gt (x := x) (k := 63743) (K := 63743) rfl (by omega)), F2_164, if_neg (own_nlt (x := x) (k := 64976) (K := 64976) rfl (by omega)), F2_170, if_pos (own_gt (x := x) (k := 65007) (K := 65007) rfl (by omega)), F2_178, if_neg (own_neq (x := x) (k := 65534) (K := 65534) rfl (by omega)), F2_184, if_neg (own_neq (x := x) (k := 65535) (K := 65535) rfl (by omega)), F2_192, if_neg (own_nlt (x := x) (k := 983040) (K := 983040) rfl (by omega)), F2_198]
  first | exact Or.inl ⟨rfl, rfl⟩ | exact Or.inr ⟨rfl, rfl⟩
theorem own_idx (x : Int32) : ¬ ((x &&& (2147483647 : Int32)) % (33 : Int32)) < 0 ∧ ((x &&& (2147483647 : Int32)) % (33 : Int32)).toNatClampNeg < 33 := by
  have h := c_and x (2147483647 : Int32) (by decide)
  have h2 := (c_irem (x &&& (2147483647 : Int32)) (33 : Int32) 33 rfl).1 h.1
  have e0 : (0 : Int32).toInt = 0 := rfl
  rw [Int32.lt_iff_toInt_lt, e0]
  refine ⟨by omega, ?_⟩
  show ((x &&& (2147483647 : Int32)) % (33 : Int32)).toInt.toNat < 33
  omega
theorem pn_0 : plainName "com/example/stylesheet_processor/stylesheetprocessor/model/NamesIsNCNameStartCharPinLaw" = true := by first | (simp [plainName, overriddenIn]; done) | decide +kernel
theorem ef_0 (m : MethodId) (x0 : Int32) (x1 : Int32) (x2 : Int32) (x3 : Int32) : entryFrame m #[(.int x0), (.int x1), (.int x2), (.int x3)] maxLocals = mkF m 0 #[.val (.int x0), .val (.int x1), .val (.int x2), .val (.int x3), .unset, .unset, .unset] [] := by first | (simp [entryFrame, mkF, argsToLocals, Value.category, maxLocals]; done) | rfl
def Q0 (Z : State) (p0 : Int32) (p1 : Int32) (p2 : Int32) (p3 : Int32) (h0 : Heap) (n0 : Nat) (v : Option Value) (h : Heap) (L : List Loc) : Prop := v = some (.int 1) ∧ Fr n0 L
set_option maxRecDepth 65536 in
set_option maxHeartbeats 40000000 in
theorem rm0 (l : Launch) (Z : State) (a0 : Array Value) (hw : ∀ d ∈ tables_1, d.before a0 Z = true) (ws : List Jvm.Cond) (p0 : Int32) (p1 : Int32) (p2 : Int32) (p3 : Int32) (h0 : Heap) (n0 : Nat) (Z0 : n0 ≤ h0.size) :
    MetFree l x (head1 (Jvm.Cond.code x code maxLocals ret :: ws) room_1) (fun a_ U_ => a_ = #[(.int p0), (.int p1), (.int p2), (.int p3)] ∧ Z.Warmed39 U_.vm ∧ U_.heap = h0) (fun _ _ _ _ _ => True) (fun _ U_ o_ V_ => ∃ v_ L_, o_ = .returned v_ ∧ Q0 Z p0 p1 p2 p3 h0 n0 v_ V_.heap L_ ∧ FrameEnd U_ o_ V_ L_ 16 192) := by
  refine MetFree.of_bodySF (plainFor_of_name pn_0) hisR ?_
  intro p e s m args below meth c s₁ Bd hml0 hP hK
  obtain ⟨rfl, hZ, hh⟩ := hP
  have hx := Bd.exec
  have hby := Bd.bytes
  have hml : c.maxLocals = 7 := hml0
  have hown : s.vm.findClass "com/example/stylesheet_processor/stylesheetprocessor/model/NamesIsNCNameStartCharPinLaw" = some m.cls := findClass_of_methodNamed Bd.named
  have hnm := (name_of_methodNamed Bd.named Bd.method).1
  have hlk : meth.locks = false := BodyLoose.notSynchronized Bd
  have hrt := Bd.returns
  have X0 : Stand p l e room_1 s m #[(.int p0), (.int p1), (.int p2), (.int p3)] below meth c s₁ [] 0 0 := Stand.of_body Bd
  have e0 : s₁.heap = h0 := by rw [← hh, Bd.state]; rfl
  have N0 := Fr.nil n0
  show Go p.tables e below (PQ s below (Q0 Z p0 p1 p2 p3 h0 n0) 16 192) _
  refine Go.via (B := s₁.setTop (mkF m 0 #[.val (.int p0), .val (.int p1), .val (.int p2), .val (.int p3), .unset, .unset, .unset] [])) (fun t_ k_ => castTop (ef_0 m p0 p1 p2 p3) k_) ?_
  refine Go.via (B := s₁.setTop (mkF m 2 #[.val (.int p0), .val (.int p1), .val (.int p2), .val (.int p3), .unset, .unset, .unset] [(.int (33 : Int32))])) (fun t_ k_ => ?_) ?_
  · show Steps p.tables e below (s₁.setTop (mkF m 0 #[.val (.int p0), .val (.int p1), .val (.int p2), .val (.int p3), .unset, .unset, .unset] [])) t_
    refine XS.bipush X0.here hx rfl (hb hby at_0) ?_
    show Steps p.tables e below (s₁.setTop (mkF m 2 #[.val (.int p0), .val (.int p1), .val (.int p2), .val (.int p3), .unset, .unset, .unset] [(.int (33 : Int32))])) t_
    exact k_
  obtain ⟨T1, h1, k1, X1, e1, E1, A1, st1⟩ := newP X0 hx hZ (hw _ (List.mem_of_getElem? (i := 0) rfl)) e0 (g := (mkF m 2 #[.val (.int p0), .val (.int p1), .val (.int p2), .val (.int p3), .unset, .unset, .unset] [(.int (33 : Int32))])) rfl (hb hby at_2) rfl (by decide) (cap := 33) (by decide) (by decide) (by decide) (by decide)
  obtain ⟨b1, g1⟩ : ∃ z, z = h0.size := ⟨_, rfl⟩
  rw [← g1] at A1 st1
  have gb1 : n0 ≤ b1 := Nat.le_trans Z0 (Nat.le_of_eq g1.symm)
  have Z1 : n0 ≤ h1.size := Nat.le_trans Z0 E1.1
  refine Go.via st1 ?_
  show Go p.tables e below _ (T1.setTop (mkF m 4 #[.val (.int p0), .val (.int p1), .val (.int p2), .val (.int p3), .unset, .unset, .unset] [(.ref b1)]))
  have V1 : Ary Z h1 b1 .int 33 _ := Ary.new A1 (by decide) rfl rfl
  refine Go.via (B := T1.setTop (mkF m 8 #[.val (.int p0), .val (.int p1), .val (.int p2), .val (.int p3), .unset, .unset, .unset] [(.int (65 : Int32)), (.int (0 : Int32)), (.ref b1), (.ref b1)])) (fun t_ k_ => ?_) ?_
  · show Steps p.tables e below (T1.setTop (mkF m 4 #[.val (.int p0), .val (.int p1), .val (.int p2), .val (.int p3), .unset, .unset, .unset] [(.ref b1)])) t_
    refine XS.dup X1.here hx rfl (hb hby at_4) rfl rfl ?_
    show Steps p.tables e below (T1.setTop (mkF m 5 #[.val (.int p0), .val (.int p1), .val (.int p2), .val (.int p3), .unset, .unset, .unset] [(.ref b1), (.ref b1)])) t_
    refine XS.iconst X1.here hx rfl (hb hby at_5) ?_
    show Steps p.tables e below (T1.setTop (mkF m 6 #[.val (.int p0), .val (.int p1), .val (.int p2), .val (.int p3), .unset, .unset, .unset] [(.int (0 : Int32)), (.ref b1), (.ref b1)])) t_
    refine XS.bipush X1.here hx rfl (hb hby at_6) ?_
    show Steps p.tables e below (T1.setTop (mkF m 8 #[.val (.int p0), .val (.int p1), .val (.int p2), .val (.int p3), .unset, .unset, .unset] [(.int (65 : Int32)), (.int (0 : Int32)), (.ref b1), (.ref b1)])) t_
    exact k_
  obtain ⟨T2, h2, L2, X2, e2, N2, W2, V2, st2⟩ := aputI X1 hx hZ e1 V1 N0 gb1 (by decide) (by decide) (g := (mkF m 8 #[.val (.int p0), .val (.int p1), .val (.int p2), .val (.int p3), .unset, .unset, .unset] [(.int (65 : Int32)), (.int (0 : Int32)), (.ref b1), (.ref b1)])) rfl rfl (hb hby at_8)
  have Z2 : n0 ≤ h2.size := Nat.le_trans Z1 (Keep.of_wr W2).1
  clear W2
  refine Go.via st2 ?_
  show Go p.tables e below _ (T2.setTop (mkF m 9 #[.val (.int p0), .val (.int p1), .val (.int p2), .val (.int p3), .unset, .unset, .unset] [(.ref b1)]))
  refine Go.via (B := T2.setTop (mkF m 13 #[.val (.int p0), .val (.int p1), .val (.int p2), .val (.int p3), .unset, .unset, .unset] [(.int (90 : Int32)), (.int (1 : Int32)), (.ref b1), (.ref b1)])) (fun t_ k_ => ?_) ?_
  · show Steps p.tables e below (T2.setTop (mkF m 9 #[.val (.int p0), .val (.int p1), .val (.int p2), .val (.int p3), .unset, .unset, .unset] [(.ref b1)])) t_
    refine XS.dup X2.here hx rfl (hb hby at_9) rfl rfl ?_
    show Steps p.tables e below (T2.setTop (mkF m 10 #[.val (.int p0), .val (.int p1), .val (.int p2), .val (.int p3), .unset, .unset, .unset] [(.ref b1), (.ref b1)])) t_
    refine XS.iconst X2.here hx rfl (hb hby at_10) ?_
    show Steps p.tables e below (T2.setTop (mkF m 11 #[.val (.int p0), .val (.int p1), .val (.int p2), .val (.int p3), .unset, .unset, .unset] [(.int (1 : Int32)), (.ref b1), (.ref b1)])) t_
    refine XS.bipush X2.here hx rfl (hb hby at_11) ?_
    show Steps p.tables e below (T2.setTop (mkF m 13 #[.val (.int p0), .val (.int p1), .val (.int p2), .val (.int p3), .unset, .unset, .unset] [(.int (90 : Int32)), (.int (1 : Int32)), (.ref b1), (.ref b1)])) t_
    exact k_
  obtain ⟨T3, h3, L3, X3, e3, N3, W3, V3, st3⟩ := aputI X2 hx hZ e2 V2 N2 gb1 (by decide) (by decide) (g := (mkF m 13 #[.val (.int p0), .val (.int p1), .val (.int p2), .val (.int p3), .unset, .unset, .unset] [(.int (90 : Int32)), (.int (1 : Int32)), (.ref b1), (.ref b1)])) rfl rfl (hb hby at_13)
  have Z3 : n0 ≤ h3.size := Nat.le_trans Z2 (Keep.of_wr W3).1
  clear W3
  refine Go.via st3 ?_
  show Go p.tables e below _ (T3.setTop (mkF m 14 #[.val (.int p0), .val (.int p1), .val (.int p2), .val (.int p3), .unset, .unset, .unset] [(.ref b1)]))
  refine Go.via (B := T3.setTop (mkF m 18 #[.val (.int p0), .val (.int p1), .val (.int p2), .val (.int p3), .unset, .unset, .unset] [(.int (95 : Int32)), (.int (2 : Int32)), (.ref b1), (.ref b1)])) (fun t_ k_ => ?_) ?_
  · show Steps p.tables e below (T3.setTop (mkF m 14 #[.val (.int p0), .val (.int p1), .val (.int p2), .val (.int p3), .unset, .unset, .unset] [(.ref b1)])) t_
    refine XS.dup X3.here hx rfl (hb hby at_14) rfl rfl ?_
    show Steps p.tables e below (T3.setTop (mkF m 15 #[.val (.int p0), .val (.int p1), .val (.int p2), .val (.int p3), .unset, .unset, .unset] [(.ref b1), (.ref b1)])) t_
    refine XS.iconst X3.here hx rfl (hb hby at_15) ?_
    show Steps p.tables e below (T3.setTop (mkF m 16 #[.val (.int p0), .val (.int p1), .val (.int p2), .val (.int p3), .unset, .unset, .unset] [(.int (2 : Int32)), (.ref b1), (.ref b1)])) t_
    refine XS.bipush X3.here hx rfl (hb hby at_16) ?_
    show Steps p.tables e below (T3.setTop (mkF m 18 #[.val (.int p0), .val (.int p1), .val (.int p2), .val (.int p3), .unset, .unset, .unset] [(.int (95 : Int32)), (.int (2 : Int32)), (.ref b1), (.ref b1)])) t_
    exact k_
  obtain ⟨T4, h4, L4, X4, e4, N4, W4, V4, st4⟩ := aputI X3 hx hZ e3 V3 N3 gb1 (by decide) (by decide) (g := (mkF m 18 #[.val (.int p0), .val (.int p1), .val (.int p2), .val (.int p3), .unset, .unset, .unset] [(.int (95 : Int32)), (.int (2 : Int32)), (.ref b1), (.ref b1)])) rfl rfl (hb hby at_18)
  have Z4 : n0 ≤ h4.size := Nat.le_trans Z3 (Keep.of_wr W4).1
  clear W4
  refine Go.via st4 ?_
  show Go p.tables e below _ (T4.setTop (mkF m 19 #[.val (.int p0), .val (.int p1), .val (.int p2), .val (.int p3), .unset, .unset, .unset] [(.ref b1)]))
  refine Go.via (B := T4.setTop (mkF m 23 #[.val (.int p0), .val (.int p1), .val (.int p2), .val (.int p3), .unset, .unset, .unset] [(.int (97 : Int32)), (.int (3 : Int32)), (.ref b1), (.ref b1)])) (fun t_ k_ => ?_) ?_
  · show Steps p.tables e below (T4.setTop (mkF m 19 #[.val (.int p0), .val (.int p1), .val (.int p2), .val (.int p3), .unset, .unset, .unset] [(.ref b1)])) t_
    refine XS.dup X4.here hx rfl (hb hby at_19) rfl rfl ?_
    show Steps p.tables e below (T4.setTop (mkF m 20 #[.val (.int p0), .val (.int p1), .val (.int p2), .val (.int p3), .unset, .unset, .unset] [(.ref b1), (.ref b1)])) t_
    refine XS.iconst X4.here hx rfl (hb hby at_20) ?_
    show Steps p.tables e below (T4.setTop (mkF m 21 #[.val (.int p0), .val (.int p1), .val (.int p2), .val (.int p3), .unset, .unset, .unset] [(.int (3 : Int32)), (.ref b1), (.ref b1)])) t_
    refine XS.bipush X4.here hx rfl (hb hby at_21) ?_
    show Steps p.tables e below (T4.setTop (mkF m 23 #[.val (.int p0), .val (.int p1), .val (.int p2), .val (.int p3), .unset, .unset, .unset] [(.int (97 : Int32)), (.int (3 : Int32)), (.ref b1), (.ref b1)])) t_
    exact k_
  obtain ⟨T5, h5, L5, X5, e5, N5, W5, V5, st5⟩ := aputI X4 hx hZ e4 V4 N4 gb1 (by decide) (by decide) (g := (mkF m 23 #[.val (.int p0), .val (.int p1), .val (.int p2), .val (.int p3), .unset, .unset, .unset] [(.int (97 : Int32)), (.int (3 : Int32)), (.ref b1), (.ref b1)])) rfl rfl (hb hby at_23)
  have Z5 : n0 ≤ h5.size := Nat.le_trans Z4 (Keep.of_wr W5).1
  clear W5
  refine Go.via st5 ?_
  show Go p.tables e below _ (T5.setTop (mkF m 24 #[.val (.int p0), .val (.int p1), .val (.int p2), .val (.int p3), .unset, .unset, .unset] [(.ref b1)]))
  refine Go.via (B := T5.setTop (mkF m 28 #[.val (.int p0), .val (.int p1), .val (.int p2), .val (.int p3), .unset, .unset, .unset] [(.int (122 : Int32)), (.int (4 : Int32)), (.ref b1), (.ref b1)])) (fun t_ k_ => ?_) ?_
  · show Steps p.tables e below (T5.setTop (mkF m 24 #[.val (.int p0), .val (.int p1), .val (.int p2), .val (.int p3), .unset, .unset, .unset] [(.ref b1)])) t_
    refine XS.dup X5.here hx rfl (hb hby at_24) rfl rfl ?_
    show Steps p.tables e below (T5.setTop (mkF m 25 #[.val (.int p0), .val (.int p1), .val (.int p2), .val (.int p3), .unset, .unset, .unset] [(.ref b1), (.ref b1)])) t_
    refine XS.iconst X5.here hx rfl (hb hby at_25) ?_
    show Steps p.tables e below (T5.setTop (mkF m 26 #[.val (.int p0), .val (.int p1), .val (.int p2), .val (.int p3), .unset, .unset, .unset] [(.int (4 : Int32)), (.ref b1), (.ref b1)])) t_
    refine XS.bipush X5.here hx rfl (hb hby at_26) ?_
    show Steps p.tables e below (T5.setTop (mkF m 28 #[.val (.int p0), .val (.int p1), .val (.int p2), .val (.int p3), .unset, .unset, .unset] [(.int (122 : Int32)), (.int (4 : Int32)), (.ref b1), (.ref b1)])) t_
    exact k_
  obtain ⟨T6, h6, L6, X6, e6, N6, W6, V6, st6⟩ := aputI X5 hx hZ e5 V5 N5 gb1 (by decide) (by decide) (g := (mkF m 28 #[.val (.int p0), .val (.int p1), .val (.int p2), .val (.int p3), .unset, .unset, .unset] [(.int (122 : Int32)), (.int (4 : Int32)), (.ref b1), (.ref b1)])) rfl rfl (hb hby at_28)
  have Z6 : n0 ≤ h6.size := Nat.le_trans Z5 (Keep.of_wr W6).1
  clear W6
  refine Go.via st6 ?_
  show Go p.tables e below _ (T6.setTop (mkF m 29 #[.val (.int p0), .val (.int p1), .val (.int p2), .val (.int p3), .unset, .unset, .unset] [(.ref b1)]))
  refine Go.via (B := T6.setTop (mkF m 34 #[.val (.int p0), .val (.int p1), .val (.int p2), .val (.int p3), .unset, .unset, .unset] [(.int (192 : Int32)), (.int (5 : Int32)), (.ref b1), (.ref b1)])) (fun t_ k_ => ?_) ?_
  · show Steps p.tables e below (T6.setTop (mkF m 29 #[.val (.int p0), .val (.int p1), .val (.int p2), .val (.int p3), .unset, .unset, .unset] [(.ref b1)])) t_
    refine XS.dup X6.here hx rfl (hb hby at_29) rfl rfl ?_
    show Steps p.tables e below (T6.setTop (mkF m 30 #[.val (.int p0), .val (.int p1), .val (.int p2), .val (.int p3), .unset, .unset, .unset] [(.ref b1), (.ref b1)])) t_
    refine XS.iconst X6.here hx rfl (hb hby at_30) ?_
    show Steps p.tables e below (T6.setTop (mkF m 31 #[.val (.int p0), .val (.int p1), .val (.int p2), .val (.int p3), .unset, .unset, .unset] [(.int (5 : Int32)), (.ref b1), (.ref b1)])) t_
    refine XS.sipush X6.here hx rfl (hb hby at_31) ?_
    show Steps p.tables e below (T6.setTop (mkF m 34 #[.val (.int p0), .val (.int p1), .val (.int p2), .val (.int p3), .unset, .unset, .unset] [(.int (192 : Int32)), (.int (5 : Int32)), (.ref b1), (.ref b1)])) t_
    exact k_
  obtain ⟨T7, h7, L7, X7, e7, N7, W7, V7, st7⟩ := aputI X6 hx hZ e6 V6 N6 gb1 (by decide) (by decide) (g := (mkF m 34 #[.val (.int p0), .val (.int p1), .val (.int p2), .val (.int p3), .unset, .unset, .unset] [(.int (192 : Int32)), (.int (5 : Int32)), (.ref b1), (.ref b1)])) rfl rfl (hb hby at_34)
  have Z7 : n0 ≤ h7.size := Nat.le_trans Z6 (Keep.of_wr W7).1
  clear W7
  refine Go.via st7 ?_
  show Go p.tables e below _ (T7.setTop (mkF m 35 #[.val (.int p0), .val (.int p1), .val (.int p2), .val (.int p3), .unset, .unset, .unset] [(.ref b1)]))
  refine Go.via (B := T7.setTop (mkF m 41 #[.val (.int p0), .val (.int p1), .val (.int p2), .val (.int p3), .unset, .unset, .unset] [(.int (214 : Int32)), (.int (6 : Int32)), (.ref b1), (.ref b1)])) (fun t_ k_ => ?_) ?_
  · show Steps p.tables e below (T7.setTop (mkF m 35 #[.val (.int p0), .val (.int p1), .val (.int p2), .val (.int p3), .unset, .unset, .unset] [(.ref b1)])) t_
    refine XS.dup X7.here hx rfl (hb hby at_35) rfl rfl ?_
    show Steps p.tables e below (T7.setTop (mkF m 36 #[.val (.int p0), .val (.int p1), .val (.int p2), .val (.int p3), .unset, .unset, .unset] [(.ref b1), (.ref b1)])) t_
    refine XS.bipush X7.here hx rfl (hb hby at_36) ?_
    show Steps p.tables e below (T7.setTop (mkF m 38 #[.val (.int p0), .val (.int p1), .val (.int p2), .val (.int p3), .unset, .unset, .unset] [(.int (6 : Int32)), (.ref b1), (.ref b1)])) t_
    refine XS.sipush X7.here hx rfl (hb hby at_38) ?_
    show Steps p.tables e below (T7.setTop (mkF m 41 #[.val (.int p0), .val (.int p1), .val (.int p2), .val (.int p3), .unset, .unset, .unset] [(.int (214 : Int32)), (.int (6 : Int32)), (.ref b1), (.ref b1)])) t_
    exact k_
  obtain ⟨T8, h8, L8, X8, e8, N8, W8, V8, st8⟩ := aputI X7 hx hZ e7 V7 N7 gb1 (by decide) (by decide) (g := (mkF m 41 #[.val (.int p0), .val (.int p1), .val (.int p2), .val (.int p3), .unset, .unset, .unset] [(.int (214 : Int32)), (.int (6 : Int32)), (.ref b1), (.ref b1)])) rfl rfl (hb hby at_41)
  have Z8 : n0 ≤ h8.size := Nat.le_trans Z7 (Keep.of_wr W8).1
  clear W8
  refine Go.via st8 ?_
  show Go p.tables e below _ (T8.setTop (mkF m 42 #[.val (.int p0), .val (.int p1), .val (.int p2), .val (.int p3), .unset, .unset, .unset] [(.ref b1)]))
  refine Go.via (B := T8.setTop (mkF m 48 #[.val (.int p0), .val (.int p1), .val (.int p2), .val (.int p3), .unset, .unset, .unset] [(.int (216 : Int32)), (.int (7 : Int32)), (.ref b1), (.ref b1)])) (fun t_ k_ => ?_) ?_
  · show Steps p.tables e below (T8.setTop (mkF m 42 #[.val (.int p0), .val (.int p1), .val (.int p2), .val (.int p3), .unset, .unset, .unset] [(.ref b1)])) t_
    refine XS.dup X8.here hx rfl (hb hby at_42) rfl rfl ?_
    show Steps p.tables e below (T8.setTop (mkF m 43 #[.val (.int p0), .val (.int p1), .val (.int p2), .val (.int p3), .unset, .unset, .unset] [(.ref b1), (.ref b1)])) t_
    refine XS.bipush X8.here hx rfl (hb hby at_43) ?_
    show Steps p.tables e below (T8.setTop (mkF m 45 #[.val (.int p0), .val (.int p1), .val (.int p2), .val (.int p3), .unset, .unset, .unset] [(.int (7 : Int32)), (.ref b1), (.ref b1)])) t_
    refine XS.sipush X8.here hx rfl (hb hby at_45) ?_
    show Steps p.tables e below (T8.setTop (mkF m 48 #[.val (.int p0), .val (.int p1), .val (.int p2), .val (.int p3), .unset, .unset, .unset] [(.int (216 : Int32)), (.int (7 : Int32)), (.ref b1), (.ref b1)])) t_
    exact k_
  obtain ⟨T9, h9, L9, X9, e9, N9, W9, V9, st9⟩ := aputI X8 hx hZ e8 V8 N8 gb1 (by decide) (by decide) (g := (mkF m 48 #[.val (.int p0), .val (.int p1), .val (.int p2), .val (.int p3), .unset, .unset, .unset] [(.int (216 : Int32)), (.int (7 : Int32)), (.ref b1), (.ref b1)])) rfl rfl (hb hby at_48)
  have Z9 : n0 ≤ h9.size := Nat.le_trans Z8 (Keep.of_wr W9).1
  clear W9
  refine Go.via st9 ?_
  show Go p.tables e below _ (T9.setTop (mkF m 49 #[.val (.int p0), .val (.int p1), .val (.int p2), .val (.int p3), .unset, .unset, .unset] [(.ref b1)]))
  refine Go.via (B := T9.setTop (mkF m 55 #[.val (.int p0), .val (.int p1), .val (.int p2), .val (.int p3), .unset, .unset, .unset] [(.int (246 : Int32)), (.int (8 : Int32)), (.ref b1), (.ref b1)])) (fun t_ k_ => ?_) ?_
  · show Steps p.tables e below (T9.setTop (mkF m 49 #[.val (.int p0), .val (.int p1), .val (.int p2), .val (.int p3), .unset, .unset, .unset] [(.ref b1)])) t_
    refine XS.dup X9.here hx rfl (hb hby at_49) rfl rfl ?_
    show Steps p.tables e below (T9.setTop (mkF m 50 #[.val (.int p0), .val (.int p1), .val (.int p2), .val (.int p3), .unset, .unset, .unset] [(.ref b1), (.ref b1)])) t_
    refine XS.bipush X9.here hx rfl (hb hby at_50) ?_
    show Steps p.tables e below (T9.setTop (mkF m 52 #[.val (.int p0), .val (.int p1), .val (.int p2), .val (.int p3), .unset, .unset, .unset] [(.int (8 : Int32)), (.ref b1), (.ref b1)])) t_
    refine XS.sipush X9.here hx rfl (hb hby at_52) ?_
    show Steps p.tables e below (T9.setTop (mkF m 55 #[.val (.int p0), .val (.int p1), .val (.int p2), .val (.int p3), .unset, .unset, .unset] [(.int (246 : Int32)), (.int (8 : Int32)), (.ref b1), (.ref b1)])) t_
    exact k_
  obtain ⟨T10, h10, L10, X10, e10, N10, W10, V10, st10⟩ := aputI X9 hx hZ e9 V9 N9 gb1 (by decide) (by decide) (g := (mkF m 55 #[.val (.int p0), .val (.int p1), .val (.int p2), .val (.int p3), .unset, .unset, .unset] [(.int (246 : Int32)), (.int (8 : Int32)), (.ref b1), (.ref b1)])) rfl rfl (hb hby at_55)
  have Z10 : n0 ≤ h10.size := Nat.le_trans Z9 (Keep.of_wr W10).1
  clear W10
  refine Go.via st10 ?_
  show Go p.tables e below _ (T10.setTop (mkF m 56 #[.val (.int p0), .val (.int p1), .val (.int p2), .val (.int p3), .unset, .unset, .unset] [(.ref b1)]))
  refine Go.via (B := T10.setTop (mkF m 62 #[.val (.int p0), .val (.int p1), .val (.int p2), .val (.int p3), .unset, .unset, .unset] [(.int (248 : Int32)), (.int (9 : Int32)), (.ref b1), (.ref b1)])) (fun t_ k_ => ?_) ?_
  · show Steps p.tables e below (T10.setTop (mkF m 56 #[.val (.int p0), .val (.int p1), .val (.int p2), .val (.int p3), .unset, .unset, .unset] [(.ref b1)])) t_
    refine XS.dup X10.here hx rfl (hb hby at_56) rfl rfl ?_
    show Steps p.tables e below (T10.setTop (mkF m 57 #[.val (.int p0), .val (.int p1), .val (.int p2), .val (.int p3), .unset, .unset, .unset] [(.ref b1), (.ref b1)])) t_
    refine XS.bipush X10.here hx rfl (hb hby at_57) ?_
    show Steps p.tables e below (T10.setTop (mkF m 59 #[.val (.int p0), .val (.int p1), .val (.int p2), .val (.int p3), .unset, .unset, .unset] [(.int (9 : Int32)), (.ref b1), (.ref b1)])) t_
    refine XS.sipush X10.here hx rfl (hb hby at_59) ?_
    show Steps p.tables e below (T10.setTop (mkF m 62 #[.val (.int p0), .val (.int p1), .val (.int p2), .val (.int p3), .unset, .unset, .unset] [(.int (248 : Int32)), (.int (9 : Int32)), (.ref b1), (.ref b1)])) t_
    exact k_
  obtain ⟨T11, h11, L11, X11, e11, N11, W11, V11, st11⟩ := aputI X10 hx hZ e10 V10 N10 gb1 (by decide) (by decide) (g := (mkF m 62 #[.val (.int p0), .val (.int p1), .val (.int p2), .val (.int p3), .unset, .unset, .unset] [(.int (248 : Int32)), (.int (9 : Int32)), (.ref b1), (.ref b1)])) rfl rfl (hb hby at_62)
  have Z11 : n0 ≤ h11.size := Nat.le_trans Z10 (Keep.of_wr W11).1
  clear W11
  refine Go.via st11 ?_
  show Go p.tables e below _ (T11.setTop (mkF m 63 #[.val (.int p0), .val (.int p1), .val (.int p2), .val (.int p3), .unset, .unset, .unset] [(.ref b1)]))
  refine Go.via (B := T11.setTop (mkF m 69 #[.val (.int p0), .val (.int p1), .val (.int p2), .val (.int p3), .unset, .unset, .unset] [(.int (767 : Int32)), (.int (10 : Int32)), (.ref b1), (.ref b1)])) (fun t_ k_ => ?_) ?_
  · show Steps p.tables e below (T11.setTop (mkF m 63 #[.val (.int p0), .val (.int p1), .val (.int p2), .val (.int p3), .unset, .unset, .unset] [(.ref b1)])) t_
    refine XS.dup X11.here hx rfl (hb hby at_63) rfl rfl ?_
    show Steps p.tables e below (T11.setTop (mkF m 64 #[.val (.int p0), .val (.int p1), .val (.int p2), .val (.int p3), .unset, .unset, .unset] [(.ref b1), (.ref b1)])) t_
    refine XS.bipush X11.here hx rfl (hb hby at_64) ?_
    show Steps p.tables e below (T11.setTop (mkF m 66 #[.val (.int p0), .val (.int p1), .val (.int p2), .val (.int p3), .unset, .unset, .unset] [(.int (10 : Int32)), (.ref b1), (.ref b1)])) t_
    refine XS.sipush X11.here hx rfl (hb hby at_66) ?_
    show Steps p.tables e below (T11.setTop (mkF m 69 #[.val (.int p0), .val (.int p1), .val (.int p2), .val (.int p3), .unset, .unset, .unset] [(.int (767 : Int32)), (.int (10 : Int32)), (.ref b1), (.ref b1)])) t_
    exact k_
  obtain ⟨T12, h12, L12, X12, e12, N12, W12, V12, st12⟩ := aputI X11 hx hZ e11 V11 N11 gb1 (by decide) (by decide) (g := (mkF m 69 #[.val (.int p0), .val (.int p1), .val (.int p2), .val (.int p3), .unset, .unset, .unset] [(.int (767 : Int32)), (.int (10 : Int32)), (.ref b1), (.ref b1)])) rfl rfl (hb hby at_69)
  have Z12 : n0 ≤ h12.size := Nat.le_trans Z11 (Keep.of_wr W12).1
  clear W12
  refine Go.via st12 ?_
  show Go p.tables e below _ (T12.setTop (mkF m 70 #[.val (.int p0), .val (.int p1), .val (.int p2), .val (.int p3), .unset, .unset, .unset] [(.ref b1)]))
  refine Go.via (B := T12.setTop (mkF m 76 #[.val (.int p0), .val (.int p1), .val (.int p2), .val (.int p3), .unset, .unset, .unset] [(.int (880 : Int32)), (.int (11 : Int32)), (.ref b1), (.ref b1)])) (fun t_ k_ => ?_) ?_
  · show Steps p.tables e below (T12.setTop (mkF m 70 #[.val (.int p0), .val (.int p1), .val (.int p2), .val (.int p3), .unset, .unset, .unset] [(.ref b1)])) t_
    refine XS.dup X12.here hx rfl (hb hby at_70) rfl rfl ?_
    show Steps p.tables e below (T12.setTop (mkF m 71 #[.val (.int p0), .val (.int p1), .val (.int p2), .val (.int p3), .unset, .unset, .unset] [(.ref b1), (.ref b1)])) t_
    refine XS.bipush X12.here hx rfl (hb hby at_71) ?_
    show Steps p.tables e below (T12.setTop (mkF m 73 #[.val (.int p0), .val (.int p1), .val (.int p2), .val (.int p3), .unset, .unset, .unset] [(.int (11 : Int32)), (.ref b1), (.ref b1)])) t_
    refine XS.sipush X12.here hx rfl (hb hby at_73) ?_
    show Steps p.tables e below (T12.setTop (mkF m 76 #[.val (.int p0), .val (.int p1), .val (.int p2), .val (.int p3), .unset, .unset, .unset] [(.int (880 : Int32)), (.int (11 : Int32)), (.ref b1), (.ref b1)])) t_
    exact k_
  obtain ⟨T13, h13, L13, X13, e13, N13, W13, V13, st13⟩ := aputI X12 hx hZ e12 V12 N12 gb1 (by decide) (by decide) (g := (mkF m 76 #[.val (.int p0), .val (.int p1), .val (.int p2), .val (.int p3), .unset, .unset, .unset] [(.int (880 : Int32)), (.int (11 : Int32)), (.ref b1), (.ref b1)])) rfl rfl (hb hby at_76)
  have Z13 : n0 ≤ h13.size := Nat.le_trans Z12 (Keep.of_wr W13).1
  clear W13
  refine Go.via st13 ?_
  show Go p.tables e below _ (T13.setTop (mkF m 77 #[.val (.int p0), .val (.int p1), .val (.int p2), .val (.int p3), .unset, .unset, .unset] [(.ref b1)]))
  refine Go.via (B := T13.setTop (mkF m 83 #[.val (.int p0), .val (.int p1), .val (.int p2), .val (.int p3), .unset, .unset, .unset] [(.int (893 : Int32)), (.int (12 : Int32)), (.ref b1), (.ref b1)])) (fun t_ k_ => ?_) ?_
  · show Steps p.tables e below (T13.setTop (mkF m 77 #[.val (.int p0), .val (.int p1), .val (.int p2), .val (.int p3), .unset, .unset, .unset] [(.ref b1)])) t_
    refine XS.dup X13.here hx rfl (hb hby at_77) rfl rfl ?_
    show Steps p.tables e below (T13.setTop (mkF m 78 #[.val (.int p0), .val (.int p1), .val (.int p2), .val (.int p3), .unset, .unset, .unset] [(.ref b1), (.ref b1)])) t_
    refine XS.bipush X13.here hx rfl (hb hby at_78) ?_
    show Steps p.tables e below (T13.setTop (mkF m 80 #[.val (.int p0), .val (.int p1), .val (.int p2), .val (.int p3), .unset, .unset, .unset] [(.int (12 : Int32)), (.ref b1), (.ref b1)])) t_
    refine XS.sipush X13.here hx rfl (hb hby at_80) ?_
    show Steps p.tables e below (T13.setTop (mkF m 83 #[.val (.int p0), .val (.int p1), .val (.int p2), .val (.int p3), .unset, .unset, .unset] [(.int (893 : Int32)), (.int (12 : Int32)), (.ref b1), (.ref b1)])) t_
    exact k_
  obtain ⟨T14, h14, L14, X14, e14, N14, W14, V14, st14⟩ := aputI X13 hx hZ e13 V13 N13 gb1 (by decide) (by decide) (g := (mkF m 83 #[.val (.int p0), .val (.int p1), .val (.int p2), .val (.int p3), .unset, .unset, .unset] [(.int (893 : Int32)), (.int (12 : Int32)), (.ref b1), (.ref b1)])) rfl rfl (hb hby at_83)
  have Z14 : n0 ≤ h14.size := Nat.le_trans Z13 (Keep.of_wr W14).1
  clear W14
  refine Go.via st14 ?_
  show Go p.tables e below _ (T14.setTop (mkF m 84 #[.val (.int p0), .val (.int p1), .val (.int p2), .val (.int p3), .unset, .unset, .unset] [(.ref b1)]))
  refine Go.via (B := T14.setTop (mkF m 90 #[.val (.int p0), .val (.int p1), .val (.int p2), .val (.int p3), .unset, .unset, .unset] [(.int (895 : Int32)), (.int (13 : Int32)), (.ref b1), (.ref b1)])) (fun t_ k_ => ?_) ?_
  · show Steps p.tables e below (T14.setTop (mkF m 84 #[.val (.int p0), .val (.int p1), .val (.int p2), .val (.int p3), .unset, .unset, .unset] [(.ref b1)])) t_
    refine XS.dup X14.here hx rfl (hb hby at_84) rfl rfl ?_
    show Steps p.tables e below (T14.setTop (mkF m 85 #[.val (.int p0), .val (.int p1), .val (.int p2), .val (.int p3), .unset, .unset, .unset] [(.ref b1), (.ref b1)])) t_
    refine XS.bipush X14.here hx rfl (hb hby at_85) ?_
    show Steps p.tables e below (T14.setTop (mkF m 87 #[.val (.int p0), .val (.int p1), .val (.int p2), .val (.int p3), .unset, .unset, .unset] [(.int (13 : Int32)), (.ref b1), (.ref b1)])) t_
    refine XS.sipush X14.here hx rfl (hb hby at_87) ?_
    show Steps p.tables e below (T14.setTop (mkF m 90 #[.val (.int p0), .val (.int p1), .val (.int p2), .val (.int p3), .unset, .unset, .unset] [(.int (895 : Int32)), (.int (13 : Int32)), (.ref b1), (.ref b1)])) t_
    exact k_
  obtain ⟨T15, h15, L15, X15, e15, N15, W15, V15, st15⟩ := aputI X14 hx hZ e14 V14 N14 gb1 (by decide) (by decide) (g := (mkF m 90 #[.val (.int p0), .val (.int p1), .val (.int p2), .val (.int p3), .unset, .unset, .unset] [(.int (895 : Int32)), (.int (13 : Int32)), (.ref b1), (.ref b1)])) rfl rfl (hb hby at_90)
  have Z15 : n0 ≤ h15.size := Nat.le_trans Z14 (Keep.of_wr W15).1
  clear W15
  refine Go.via st15 ?_
  show Go p.tables e below _ (T15.setTop (mkF m 91 #[.val (.int p0), .val (.int p1), .val (.int p2), .val (.int p3), .unset, .unset, .unset] [(.ref b1)]))
  refine Go.via (B := T15.setTop (mkF m 97 #[.val (.int p0), .val (.int p1), .val (.int p2), .val (.int p3), .unset, .unset, .unset] [(.int (8191 : Int32)), (.int (14 : Int32)), (.ref b1), (.ref b1)])) (fun t_ k_ => ?_) ?_
  · show Steps p.tables e below (T15.setTop (mkF m 91 #[.val (.int p0), .val (.int p1), .val (.int p2), .val (.int p3), .unset, .unset, .unset] [(.ref b1)])) t_
    refine XS.dup X15.here hx rfl (hb hby at_91) rfl rfl ?_
    show Steps p.tables e below (T15.setTop (mkF m 92 #[.val (.int p0), .val (.int p1), .val (.int p2), .val (.int p3), .unset, .unset, .unset] [(.ref b1), (.ref b1)])) t_
    refine XS.bipush X15.here hx rfl (hb hby at_92) ?_
    show Steps p.tables e below (T15.setTop (mkF m 94 #[.val (.int p0), .val (.int p1), .val (.int p2), .val (.int p3), .unset, .unset, .unset] [(.int (14 : Int32)), (.ref b1), (.ref b1)])) t_
    refine XS.sipush X15.here hx rfl (hb hby at_94) ?_
    show Steps p.tables e below (T15.setTop (mkF m 97 #[.val (.int p0), .val (.int p1), .val (.int p2), .val (.int p3), .unset, .unset, .unset] [(.int (8191 : Int32)), (.int (14 : Int32)), (.ref b1), (.ref b1)])) t_
    exact k_
  obtain ⟨T16, h16, L16, X16, e16, N16, W16, V16, st16⟩ := aputI X15 hx hZ e15 V15 N15 gb1 (by decide) (by decide) (g := (mkF m 97 #[.val (.int p0), .val (.int p1), .val (.int p2), .val (.int p3), .unset, .unset, .unset] [(.int (8191 : Int32)), (.int (14 : Int32)), (.ref b1), (.ref b1)])) rfl rfl (hb hby at_97)
  have Z16 : n0 ≤ h16.size := Nat.le_trans Z15 (Keep.of_wr W16).1
  clear W16
  refine Go.via st16 ?_
  show Go p.tables e below _ (T16.setTop (mkF m 98 #[.val (.int p0), .val (.int p1), .val (.int p2), .val (.int p3), .unset, .unset, .unset] [(.ref b1)]))
  refine Go.via (B := T16.setTop (mkF m 104 #[.val (.int p0), .val (.int p1), .val (.int p2), .val (.int p3), .unset, .unset, .unset] [(.int (8204 : Int32)), (.int (15 : Int32)), (.ref b1), (.ref b1)])) (fun t_ k_ => ?_) ?_
  · show Steps p.tables e below (T16.setTop (mkF m 98 #[.val (.int p0), .val (.int p1), .val (.int p2), .val (.int p3), .unset, .unset, .unset] [(.ref b1)])) t_
    refine XS.dup X16.here hx rfl (hb hby at_98) rfl rfl ?_
    show Steps p.tables e below (T16.setTop (mkF m 99 #[.val (.int p0), .val (.int p1), .val (.int p2), .val (.int p3), .unset, .unset, .unset] [(.ref b1), (.ref b1)])) t_
    refine XS.bipush X16.here hx rfl (hb hby at_99) ?_
    show Steps p.tables e below (T16.setTop (mkF m 101 #[.val (.int p0), .val (.int p1), .val (.int p2), .val (.int p3), .unset, .unset, .unset] [(.int (15 : Int32)), (.ref b1), (.ref b1)])) t_
    refine XS.sipush X16.here hx rfl (hb hby at_101) ?_
    show Steps p.tables e below (T16.setTop (mkF m 104 #[.val (.int p0), .val (.int p1), .val (.int p2), .val (.int p3), .unset, .unset, .unset] [(.int (8204 : Int32)), (.int (15 : Int32)), (.ref b1), (.ref b1)])) t_
    exact k_
  obtain ⟨T17, h17, L17, X17, e17, N17, W17, V17, st17⟩ := aputI X16 hx hZ e16 V16 N16 gb1 (by decide) (by decide) (g := (mkF m 104 #[.val (.int p0), .val (.int p1), .val (.int p2), .val (.int p3), .unset, .unset, .unset] [(.int (8204 : Int32)), (.int (15 : Int32)), (.ref b1), (.ref b1)])) rfl rfl (hb hby at_104)
  have Z17 : n0 ≤ h17.size := Nat.le_trans Z16 (Keep.of_wr W17).1
  clear W17
  refine Go.via st17 ?_
  show Go p.tables e below _ (T17.setTop (mkF m 105 #[.val (.int p0), .val (.int p1), .val (.int p2), .val (.int p3), .unset, .unset, .unset] [(.ref b1)]))
  refine Go.via (B := T17.setTop (mkF m 111 #[.val (.int p0), .val (.int p1), .val (.int p2), .val (.int p3), .unset, .unset, .unset] [(.int (8205 : Int32)), (.int (16 : Int32)), (.ref b1), (.ref b1)])) (fun t_ k_ => ?_) ?_
  · show Steps p.tables e below (T17.setTop (mkF m 105 #[.val (.int p0), .val (.int p1), .val (.int p2), .val (.int p3), .unset, .unset, .unset] [(.ref b1)])) t_
    refine XS.dup X17.here hx rfl (hb hby at_105) rfl rfl ?_
    show Steps p.tables e below (T17.setTop (mkF m 106 #[.val (.int p0), .val (.int p1), .val (.int p2), .val (.int p3), .unset, .unset, .unset] [(.ref b1), (.ref b1)])) t_
    refine XS.bipush X17.here hx rfl (hb hby at_106) ?_
    show Steps p.tables e below (T17.setTop (mkF m 108 #[.val (.int p0), .val (.int p1), .val (.int p2), .val (.int p3), .unset, .unset, .unset] [(.int (16 : Int32)), (.ref b1), (.ref b1)])) t_
    refine XS.sipush X17.here hx rfl (hb hby at_108) ?_
    show Steps p.tables e below (T17.setTop (mkF m 111 #[.val (.int p0), .val (.int p1), .val (.int p2), .val (.int p3), .unset, .unset, .unset] [(.int (8205 : Int32)), (.int (16 : Int32)), (.ref b1), (.ref b1)])) t_
    exact k_
  obtain ⟨T18, h18, L18, X18, e18, N18, W18, V18, st18⟩ := aputI X17 hx hZ e17 V17 N17 gb1 (by decide) (by decide) (g := (mkF m 111 #[.val (.int p0), .val (.int p1), .val (.int p2), .val (.int p3), .unset, .unset, .unset] [(.int (8205 : Int32)), (.int (16 : Int32)), (.ref b1), (.ref b1)])) rfl rfl (hb hby at_111)
  have Z18 : n0 ≤ h18.size := Nat.le_trans Z17 (Keep.of_wr W18).1
  clear W18
  refine Go.via st18 ?_
  show Go p.tables e below _ (T18.setTop (mkF m 112 #[.val (.int p0), .val (.int p1), .val (.int p2), .val (.int p3), .unset, .unset, .unset] [(.ref b1)]))
  refine Go.via (B := T18.setTop (mkF m 118 #[.val (.int p0), .val (.int p1), .val (.int p2), .val (.int p3), .unset, .unset, .unset] [(.int (8304 : Int32)), (.int (17 : Int32)), (.ref b1), (.ref b1)])) (fun t_ k_ => ?_) ?_
  · show Steps p.tables e below (T18.setTop (mkF m 112 #[.val (.int p0), .val (.int p1), .val (.int p2), .val (.int p3), .unset, .unset, .unset] [(.ref b1)])) t_
    refine XS.dup X18.here hx rfl (hb hby at_112) rfl rfl ?_
    show Steps p.tables e below (T18.setTop (mkF m 113 #[.val (.int p0), .val (.int p1), .val (.int p2), .val (.int p3), .unset, .unset, .unset] [(.ref b1), (.ref b1)])) t_
    refine XS.bipush X18.here hx rfl (hb hby at_113) ?_
    show Steps p.tables e below (T18.setTop (mkF m 115 #[.val (.int p0), .val (.int p1), .val (.int p2), .val (.int p3), .unset, .unset, .unset] [(.int (17 : Int32)), (.ref b1), (.ref b1)])) t_
    refine XS.sipush X18.here hx rfl (hb hby at_115) ?_
    show Steps p.tables e below (T18.setTop (mkF m 118 #[.val (.int p0), .val (.int p1), .val (.int p2), .val (.int p3), .unset, .unset, .unset] [(.int (8304 : Int32)), (.int (17 : Int32)), (.ref b1), (.ref b1)])) t_
    exact k_
  obtain ⟨T19, h19, L19, X19, e19, N19, W19, V19, st19⟩ := aputI X18 hx hZ e18 V18 N18 gb1 (by decide) (by decide) (g := (mkF m 118 #[.val (.int p0), .val (.int p1), .val (.int p2), .val (.int p3), .unset, .unset, .unset] [(.int (8304 : Int32)), (.int (17 : Int32)), (.ref b1), (.ref b1)])) rfl rfl (hb hby at_118)
  have Z19 : n0 ≤ h19.size := Nat.le_trans Z18 (Keep.of_wr W19).1
  clear W19
  refine Go.via st19 ?_
  show Go p.tables e below _ (T19.setTop (mkF m 119 #[.val (.int p0), .val (.int p1), .val (.int p2), .val (.int p3), .unset, .unset, .unset] [(.ref b1)]))
  refine Go.via (B := T19.setTop (mkF m 125 #[.val (.int p0), .val (.int p1), .val (.int p2), .val (.int p3), .unset, .unset, .unset] [(.int (8591 : Int32)), (.int (18 : Int32)), (.ref b1), (.ref b1)])) (fun t_ k_ => ?_) ?_
  · show Steps p.tables e below (T19.setTop (mkF m 119 #[.val (.int p0), .val (.int p1), .val (.int p2), .val (.int p3), .unset, .unset, .unset] [(.ref b1)])) t_
    refine XS.dup X19.here hx rfl (hb hby at_119) rfl rfl ?_
    show Steps p.tables e below (T19.setTop (mkF m 120 #[.val (.int p0), .val (.int p1), .val (.int p2), .val (.int p3), .unset, .unset, .unset] [(.ref b1), (.ref b1)])) t_
    refine XS.bipush X19.here hx rfl (hb hby at_120) ?_
    show Steps p.tables e below (T19.setTop (mkF m 122 #[.val (.int p0), .val (.int p1), .val (.int p2), .val (.int p3), .unset, .unset, .unset] [(.int (18 : Int32)), (.ref b1), (.ref b1)])) t_
    refine XS.sipush X19.here hx rfl (hb hby at_122) ?_
    show Steps p.tables e below (T19.setTop (mkF m 125 #[.val (.int p0), .val (.int p1), .val (.int p2), .val (.int p3), .unset, .unset, .unset] [(.int (8591 : Int32)), (.int (18 : Int32)), (.ref b1), (.ref b1)])) t_
    exact k_
  obtain ⟨T20, h20, L20, X20, e20, N20, W20, V20, st20⟩ := aputI X19 hx hZ e19 V19 N19 gb1 (by decide) (by decide) (g := (mkF m 125 #[.val (.int p0), .val (.int p1), .val (.int p2), .val (.int p3), .unset, .unset, .unset] [(.int (8591 : Int32)), (.int (18 : Int32)), (.ref b1), (.ref b1)])) rfl rfl (hb hby at_125)
  have Z20 : n0 ≤ h20.size := Nat.le_trans Z19 (Keep.of_wr W20).1
  clear W20
  refine Go.via st20 ?_
  show Go p.tables e below _ (T20.setTop (mkF m 126 #[.val (.int p0), .val (.int p1), .val (.int p2), .val (.int p3), .unset, .unset, .unset] [(.ref b1)]))
  refine Go.via (B := T20.setTop (mkF m 132 #[.val (.int p0), .val (.int p1), .val (.int p2), .val (.int p3), .unset, .unset, .unset] [(.int (11264 : Int32)), (.int (19 : Int32)), (.ref b1), (.ref b1)])) (fun t_ k_ => ?_) ?_
  · show Steps p.tables e below (T20.setTop (mkF m 126 #[.val (.int p0), .val (.int p1), .val (.int p2), .val (.int p3), .unset, .unset, .unset] [(.ref b1)])) t_
    refine XS.dup X20.here hx rfl (hb hby at_126) rfl rfl ?_
    show Steps p.tables e below (T20.setTop (mkF m 127 #[.val (.int p0), .val (.int p1), .val (.int p2), .val (.int p3), .unset, .unset, .unset] [(.ref b1), (.ref b1)])) t_
    refine XS.bipush X20.here hx rfl (hb hby at_127) ?_
    show Steps p.tables e below (T20.setTop (mkF m 129 #[.val (.int p0), .val (.int p1), .val (.int p2), .val (.int p3), .unset, .unset, .unset] [(.int (19 : Int32)), (.ref b1), (.ref b1)])) t_
    refine XS.sipush X20.here hx rfl (hb hby at_129) ?_
    show Steps p.tables e below (T20.setTop (mkF m 132 #[.val (.int p0), .val (.int p1), .val (.int p2), .val (.int p3), .unset, .unset, .unset] [(.int (11264 : Int32)), (.int (19 : Int32)), (.ref b1), (.ref b1)])) t_
    exact k_
  obtain ⟨T21, h21, L21, X21, e21, N21, W21, V21, st21⟩ := aputI X20 hx hZ e20 V20 N20 gb1 (by decide) (by decide) (g := (mkF m 132 #[.val (.int p0), .val (.int p1), .val (.int p2), .val (.int p3), .unset, .unset, .unset] [(.int (11264 : Int32)), (.int (19 : Int32)), (.ref b1), (.ref b1)])) rfl rfl (hb hby at_132)
  have Z21 : n0 ≤ h21.size := Nat.le_trans Z20 (Keep.of_wr W21).1
  clear W21
  refine Go.via st21 ?_
  show Go p.tables e below _ (T21.setTop (mkF m 133 #[.val (.int p0), .val (.int p1), .val (.int p2), .val (.int p3), .unset, .unset, .unset] [(.ref b1)]))
  refine Go.via (B := T21.setTop (mkF m 139 #[.val (.int p0), .val (.int p1), .val (.int p2), .val (.int p3), .unset, .unset, .unset] [(.int (12271 : Int32)), (.int (20 : Int32)), (.ref b1), (.ref b1)])) (fun t_ k_ => ?_) ?_
  · show Steps p.tables e below (T21.setTop (mkF m 133 #[.val (.int p0), .val (.int p1), .val (.int p2), .val (.int p3), .unset, .unset, .unset] [(.ref b1)])) t_
    refine XS.dup X21.here hx rfl (hb hby at_133) rfl rfl ?_
    show Steps p.tables e below (T21.setTop (mkF m 134 #[.val (.int p0), .val (.int p1), .val (.int p2), .val (.int p3), .unset, .unset, .unset] [(.ref b1), (.ref b1)])) t_
    refine XS.bipush X21.here hx rfl (hb hby at_134) ?_
    show Steps p.tables e below (T21.setTop (mkF m 136 #[.val (.int p0), .val (.int p1), .val (.int p2), .val (.int p3), .unset, .unset, .unset] [(.int (20 : Int32)), (.ref b1), (.ref b1)])) t_
    refine XS.sipush X21.here hx rfl (hb hby at_136) ?_
    show Steps p.tables e below (T21.setTop (mkF m 139 #[.val (.int p0), .val (.int p1), .val (.int p2), .val (.int p3), .unset, .unset, .unset] [(.int (12271 : Int32)), (.int (20 : Int32)), (.ref b1), (.ref b1)])) t_
    exact k_
  obtain ⟨T22, h22, L22, X22, e22, N22, W22, V22, st22⟩ := aputI X21 hx hZ e21 V21 N21 gb1 (by decide) (by decide) (g := (mkF m 139 #[.val (.int p0), .val (.int p1), .val (.int p2), .val (.int p3), .unset, .unset, .unset] [(.int (12271 : Int32)), (.int (20 : Int32)), (.ref b1), (.ref b1)])) rfl rfl (hb hby at_139)
  have Z22 : n0 ≤ h22.size := Nat.le_trans Z21 (Keep.of_wr W22).1
  clear W22
  refine Go.via st22 ?_
  show Go p.tables e below _ (T22.setTop (mkF m 140 #[.val (.int p0), .val (.int p1), .val (.int p2), .val (.int p3), .unset, .unset, .unset] [(.ref b1)]))
  refine Go.via (B := T22.setTop (mkF m 146 #[.val (.int p0), .val (.int p1), .val (.int p2), .val (.int p3), .unset, .unset, .unset] [(.int (12289 : Int32)), (.int (21 : Int32)), (.ref b1), (.ref b1)])) (fun t_ k_ => ?_) ?_
  · show Steps p.tables e below (T22.setTop (mkF m 140 #[.val (.int p0), .val (.int p1), .val (.int p2), .val (.int p3), .unset, .unset, .unset] [(.ref b1)])) t_
    refine XS.dup X22.here hx rfl (hb hby at_140) rfl rfl ?_
    show Steps p.tables e below (T22.setTop (mkF m 141 #[.val (.int p0), .val (.int p1), .val (.int p2), .val (.int p3), .unset, .unset, .unset] [(.ref b1), (.ref b1)])) t_
    refine XS.bipush X22.here hx rfl (hb hby at_141) ?_
    show Steps p.tables e below (T22.setTop (mkF m 143 #[.val (.int p0), .val (.int p1), .val (.int p2), .val (.int p3), .unset, .unset, .unset] [(.int (21 : Int32)), (.ref b1), (.ref b1)])) t_
    refine XS.sipush X22.here hx rfl (hb hby at_143) ?_
    show Steps p.tables e below (T22.setTop (mkF m 146 #[.val (.int p0), .val (.int p1), .val (.int p2), .val (.int p3), .unset, .unset, .unset] [(.int (12289 : Int32)), (.int (21 : Int32)), (.ref b1), (.ref b1)])) t_
    exact k_
  obtain ⟨T23, h23, L23, X23, e23, N23, W23, V23, st23⟩ := aputI X22 hx hZ e22 V22 N22 gb1 (by decide) (by decide) (g := (mkF m 146 #[.val (.int p0), .val (.int p1), .val (.int p2), .val (.int p3), .unset, .unset, .unset] [(.int (12289 : Int32)), (.int (21 : Int32)), (.ref b1), (.ref b1)])) rfl rfl (hb hby at_146)
  have Z23 : n0 ≤ h23.size := Nat.le_trans Z22 (Keep.of_wr W23).1
  clear W23
  refine Go.via st23 ?_
  show Go p.tables e below _ (T23.setTop (mkF m 147 #[.val (.int p0), .val (.int p1), .val (.int p2), .val (.int p3), .unset, .unset, .unset] [(.ref b1)]))
  refine Go.via (B := T23.setTop (mkF m 152 #[.val (.int p0), .val (.int p1), .val (.int p2), .val (.int p3), .unset, .unset, .unset] [(.int (55295 : Int32)), (.int (22 : Int32)), (.ref b1), (.ref b1)])) (fun t_ k_ => ?_) ?_
  · show Steps p.tables e below (T23.setTop (mkF m 147 #[.val (.int p0), .val (.int p1), .val (.int p2), .val (.int p3), .unset, .unset, .unset] [(.ref b1)])) t_
    refine XS.dup X23.here hx rfl (hb hby at_147) rfl rfl ?_
    show Steps p.tables e below (T23.setTop (mkF m 148 #[.val (.int p0), .val (.int p1), .val (.int p2), .val (.int p3), .unset, .unset, .unset] [(.ref b1), (.ref b1)])) t_
    refine XS.bipush X23.here hx rfl (hb hby at_148) ?_
    show Steps p.tables e below (T23.setTop (mkF m 150 #[.val (.int p0), .val (.int p1), .val (.int p2), .val (.int p3), .unset, .unset, .unset] [(.int (22 : Int32)), (.ref b1), (.ref b1)])) t_
    refine X23.ldcInt hx hown (mvT hZ (hw _ (List.mem_of_getElem? (i := 1) rfl))) (g := (mkF m 150 #[.val (.int p0), .val (.int p1), .val (.int p2), .val (.int p3), .unset, .unset, .unset] [(.int (22 : Int32)), (.ref b1), (.ref b1)])) rfl (hb hby at_150) _ ?_
    show Steps p.tables e below (T23.setTop (mkF m 152 #[.val (.int p0), .val (.int p1), .val (.int p2), .val (.int p3), .unset, .unset, .unset] [(.int (55295 : Int32)), (.int (22 : Int32)), (.ref b1), (.ref b1)])) t_
    exact k_
  obtain ⟨T24, h24, L24, X24, e24, N24, W24, V24, st24⟩ := aputI X23 hx hZ e23 V23 N23 gb1 (by decide) (by decide) (g := (mkF m 152 #[.val (.int p0), .val (.int p1), .val (.int p2), .val (.int p3), .unset, .unset, .unset] [(.int (55295 : Int32)), (.int (22 : Int32)), (.ref b1), (.ref b1)])) rfl rfl (hb hby at_152)
  have Z24 : n0 ≤ h24.size := Nat.le_trans Z23 (Keep.of_wr W24).1
  clear W24
  refine Go.via st24 ?_
  show Go p.tables e below _ (T24.setTop (mkF m 153 #[.val (.int p0), .val (.int p1), .val (.int p2), .val (.int p3), .unset, .unset, .unset] [(.ref b1)]))
  refine Go.via (B := T24.setTop (mkF m 158 #[.val (.int p0), .val (.int p1), .val (.int p2), .val (.int p3), .unset, .unset, .unset] [(.int (63744 : Int32)), (.int (23 : Int32)), (.ref b1), (.ref b1)])) (fun t_ k_ => ?_) ?_
  · show Steps p.tables e below (T24.setTop (mkF m 153 #[.val (.int p0), .val (.int p1), .val (.int p2), .val (.int p3), .unset, .unset, .unset] [(.ref b1)])) t_
    refine XS.dup X24.here hx rfl (hb hby at_153) rfl rfl ?_
    show Steps p.tables e below (T24.setTop (mkF m 154 #[.val (.int p0), .val (.int p1), .val (.int p2), .val (.int p3), .unset, .unset, .unset] [(.ref b1), (.ref b1)])) t_
    refine XS.bipush X24.here hx rfl (hb hby at_154) ?_
    show Steps p.tables e below (T24.setTop (mkF m 156 #[.val (.int p0), .val (.int p1), .val (.int p2), .val (.int p3), .unset, .unset, .unset] [(.int (23 : Int32)), (.ref b1), (.ref b1)])) t_
    refine X24.ldcInt hx hown (mvT hZ (hw _ (List.mem_of_getElem? (i := 2) rfl))) (g := (mkF m 156 #[.val (.int p0), .val (.int p1), .val (.int p2), .val (.int p3), .unset, .unset, .unset] [(.int (23 : Int32)), (.ref b1), (.ref b1)])) rfl (hb hby at_156) _ ?_
    show Steps p.tables e below (T24.setTop (mkF m 158 #[.val (.int p0), .val (.int p1), .val (.int p2), .val (.int p3), .unset, .unset, .unset] [(.int (63744 : Int32)), (.int (23 : Int32)), (.ref b1), (.ref b1)])) t_
    exact k_
  obtain ⟨T25, h25, L25, X25, e25, N25, W25, V25, st25⟩ := aputI X24 hx hZ e24 V24 N24 gb1 (by decide) (by decide) (g := (mkF m 158 #[.val (.int p0), .val (.int p1), .val (.int p2), .val (.int p3), .unset, .unset, .unset] [(.int (63744 : Int32)), (.int (23 : Int32)), (.ref b1), (.ref b1)])) rfl rfl (hb hby at_158)
  have Z25 : n0 ≤ h25.size := Nat.le_trans Z24 (Keep.of_wr W25).1
  clear W25
  refine Go.via st25 ?_
  show Go p.tables e below _ (T25.setTop (mkF m 159 #[.val (.int p0), .val (.int p1), .val (.int p2), .val (.int p3), .unset, .unset, .unset] [(.ref b1)]))
  refine Go.via (B := T25.setTop (mkF m 164 #[.val (.int p0), .val (.int p1), .val (.int p2), .val (.int p3), .unset, .unset, .unset] [(.int (64975 : Int32)), (.int (24 : Int32)), (.ref b1), (.ref b1)])) (fun t_ k_ => ?_) ?_
  · show Steps p.tables e below (T25.setTop (mkF m 159 #[.val (.int p0), .val (.int p1), .val (.int p2), .val (.int p3), .unset, .unset, .unset] [(.ref b1)])) t_
    refine XS.dup X25.here hx rfl (hb hby at_159) rfl rfl ?_
    show Steps p.tables e below (T25.setTop (mkF m 160 #[.val (.int p0), .val (.int p1), .val (.int p2), .val (.int p3), .unset, .unset, .unset] [(.ref b1), (.ref b1)])) t_
    refine XS.bipush X25.here hx rfl (hb hby at_160) ?_
    show Steps p.tables e below (T25.setTop (mkF m 162 #[.val (.int p0), .val (.int p1), .val (.int p2), .val (.int p3), .unset, .unset, .unset] [(.int (24 : Int32)), (.ref b1), (.ref b1)])) t_
    refine X25.ldcInt hx hown (mvT hZ (hw _ (List.mem_of_getElem? (i := 3) rfl))) (g := (mkF m 162 #[.val (.int p0), .val (.int p1), .val (.int p2), .val (.int p3), .unset, .unset, .unset] [(.int (24 : Int32)), (.ref b1), (.ref b1)])) rfl (hb hby at_162) _ ?_
    show Steps p.tables e below (T25.setTop (mkF m 164 #[.val (.int p0), .val (.int p1), .val (.int p2), .val (.int p3), .unset, .unset, .unset] [(.int (64975 : Int32)), (.int (24 : Int32)), (.ref b1), (.ref b1)])) t_
    exact k_
  obtain ⟨T26, h26, L26, X26, e26, N26, W26, V26, st26⟩ := aputI X25 hx hZ e25 V25 N25 gb1 (by decide) (by decide) (g := (mkF m 164 #[.val (.int p0), .val (.int p1), .val (.int p2), .val (.int p3), .unset, .unset, .unset] [(.int (64975 : Int32)), (.int (24 : Int32)), (.ref b1), (.ref b1)])) rfl rfl (hb hby at_164)
  have Z26 : n0 ≤ h26.size := Nat.le_trans Z25 (Keep.of_wr W26).1
  clear W26
  refine Go.via st26 ?_
  show Go p.tables e below _ (T26.setTop (mkF m 165 #[.val (.int p0), .val (.int p1), .val (.int p2), .val (.int p3), .unset, .unset, .unset] [(.ref b1)]))
  refine Go.via (B := T26.setTop (mkF m 170 #[.val (.int p0), .val (.int p1), .val (.int p2), .val (.int p3), .unset, .unset, .unset] [(.int (65008 : Int32)), (.int (25 : Int32)), (.ref b1), (.ref b1)])) (fun t_ k_ => ?_) ?_
  · show Steps p.tables e below (T26.setTop (mkF m 165 #[.val (.int p0), .val (.int p1), .val (.int p2), .val (.int p3), .unset, .unset, .unset] [(.ref b1)])) t_
    refine XS.dup X26.here hx rfl (hb hby at_165) rfl rfl ?_
    show Steps p.tables e below (T26.setTop (mkF m 166 #[.val (.int p0), .val (.int p1), .val (.int p2), .val (.int p3), .unset, .unset, .unset] [(.ref b1), (.ref b1)])) t_
    refine XS.bipush X26.here hx rfl (hb hby at_166) ?_
    show Steps p.tables e below (T26.setTop (mkF m 168 #[.val (.int p0), .val (.int p1), .val (.int p2), .val (.int p3), .unset, .unset, .unset] [(.int (25 : Int32)), (.ref b1), (.ref b1)])) t_
    refine X26.ldcInt hx hown (mvT hZ (hw _ (List.mem_of_getElem? (i := 4) rfl))) (g := (mkF m 168 #[.val (.int p0), .val (.int p1), .val (.int p2), .val (.int p3), .unset, .unset, .unset] [(.int (25 : Int32)), (.ref b1), (.ref b1)])) rfl (hb hby at_168) _ ?_
    show Steps p.tables e below (T26.setTop (mkF m 170 #[.val (.int p0), .val (.int p1), .val (.int p2), .val (.int p3), .unset, .unset, .unset] [(.int (65008 : Int32)), (.int (25 : Int32)), (.ref b1), (.ref b1)])) t_
    exact k_
  obtain ⟨T27, h27, L27, X27, e27, N27, W27, V27, st27⟩ := aputI X26 hx hZ e26 V26 N26 gb1 (by decide) (by decide) (g := (mkF m 170 #[.val (.int p0), .val (.int p1), .val (.int p2), .val (.int p3), .unset, .unset, .unset] [(.int (65008 : Int32)), (.int (25 : Int32)), (.ref b1), (.ref b1)])) rfl rfl (hb hby at_170)
  have Z27 : n0 ≤ h27.size := Nat.le_trans Z26 (Keep.of_wr W27).1
  clear W27
  refine Go.via st27 ?_
  show Go p.tables e below _ (T27.setTop (mkF m 171 #[.val (.int p0), .val (.int p1), .val (.int p2), .val (.int p3), .unset, .unset, .unset] [(.ref b1)]))
  refine Go.via (B := T27.setTop (mkF m 176 #[.val (.int p0), .val (.int p1), .val (.int p2), .val (.int p3), .unset, .unset, .unset] [(.int (65533 : Int32)), (.int (26 : Int32)), (.ref b1), (.ref b1)])) (fun t_ k_ => ?_) ?_
  · show Steps p.tables e below (T27.setTop (mkF m 171 #[.val (.int p0), .val (.int p1), .val (.int p2), .val (.int p3), .unset, .unset, .unset] [(.ref b1)])) t_
    refine XS.dup X27.here hx rfl (hb hby at_171) rfl rfl ?_
    show Steps p.tables e below (T27.setTop (mkF m 172 #[.val (.int p0), .val (.int p1), .val (.int p2), .val (.int p3), .unset, .unset, .unset] [(.ref b1), (.ref b1)])) t_
    refine XS.bipush X27.here hx rfl (hb hby at_172) ?_
    show Steps p.tables e below (T27.setTop (mkF m 174 #[.val (.int p0), .val (.int p1), .val (.int p2), .val (.int p3), .unset, .unset, .unset] [(.int (26 : Int32)), (.ref b1), (.ref b1)])) t_
    refine X27.ldcInt hx hown (mvT hZ (hw _ (List.mem_of_getElem? (i := 5) rfl))) (g := (mkF m 174 #[.val (.int p0), .val (.int p1), .val (.int p2), .val (.int p3), .unset, .unset, .unset] [(.int (26 : Int32)), (.ref b1), (.ref b1)])) rfl (hb hby at_174) _ ?_
    show Steps p.tables e below (T27.setTop (mkF m 176 #[.val (.int p0), .val (.int p1), .val (.int p2), .val (.int p3), .unset, .unset, .unset] [(.int (65533 : Int32)), (.int (26 : Int32)), (.ref b1), (.ref b1)])) t_
    exact k_
  obtain ⟨T28, h28, L28, X28, e28, N28, W28, V28, st28⟩ := aputI X27 hx hZ e27 V27 N27 gb1 (by decide) (by decide) (g := (mkF m 176 #[.val (.int p0), .val (.int p1), .val (.int p2), .val (.int p3), .unset, .unset, .unset] [(.int (65533 : Int32)), (.int (26 : Int32)), (.ref b1), (.ref b1)])) rfl rfl (hb hby at_176)
  have Z28 : n0 ≤ h28.size := Nat.le_trans Z27 (Keep.of_wr W28).1
  clear W28
  refine Go.via st28 ?_
  show Go p.tables e below _ (T28.setTop (mkF m 177 #[.val (.int p0), .val (.int p1), .val (.int p2), .val (.int p3), .unset, .unset, .unset] [(.ref b1)]))
  refine Go.via (B := T28.setTop (mkF m 182 #[.val (.int p0), .val (.int p1), .val (.int p2), .val (.int p3), .unset, .unset, .unset] [(.int (65536 : Int32)), (.int (27 : Int32)), (.ref b1), (.ref b1)])) (fun t_ k_ => ?_) ?_
  · show Steps p.tables e below (T28.setTop (mkF m 177 #[.val (.int p0), .val (.int p1), .val (.int p2), .val (.int p3), .unset, .unset, .unset] [(.ref b1)])) t_
    refine XS.dup X28.here hx rfl (hb hby at_177) rfl rfl ?_
    show Steps p.tables e below (T28.setTop (mkF m 178 #[.val (.int p0), .val (.int p1), .val (.int p2), .val (.int p3), .unset, .unset, .unset] [(.ref b1), (.ref b1)])) t_
    refine XS.bipush X28.here hx rfl (hb hby at_178) ?_
    show Steps p.tables e below (T28.setTop (mkF m 180 #[.val (.int p0), .val (.int p1), .val (.int p2), .val (.int p3), .unset, .unset, .unset] [(.int (27 : Int32)), (.ref b1), (.ref b1)])) t_
    refine X28.ldcInt hx hown (mvT hZ (hw _ (List.mem_of_getElem? (i := 6) rfl))) (g := (mkF m 180 #[.val (.int p0), .val (.int p1), .val (.int p2), .val (.int p3), .unset, .unset, .unset] [(.int (27 : Int32)), (.ref b1), (.ref b1)])) rfl (hb hby at_180) _ ?_
    show Steps p.tables e below (T28.setTop (mkF m 182 #[.val (.int p0), .val (.int p1), .val (.int p2), .val (.int p3), .unset, .unset, .unset] [(.int (65536 : Int32)), (.int (27 : Int32)), (.ref b1), (.ref b1)])) t_
    exact k_
  obtain ⟨T29, h29, L29, X29, e29, N29, W29, V29, st29⟩ := aputI X28 hx hZ e28 V28 N28 gb1 (by decide) (by decide) (g := (mkF m 182 #[.val (.int p0), .val (.int p1), .val (.int p2), .val (.int p3), .unset, .unset, .unset] [(.int (65536 : Int32)), (.int (27 : Int32)), (.ref b1), (.ref b1)])) rfl rfl (hb hby at_182)
  have Z29 : n0 ≤ h29.size := Nat.le_trans Z28 (Keep.of_wr W29).1
  clear W29
  refine Go.via st29 ?_
  show Go p.tables e below _ (T29.setTop (mkF m 183 #[.val (.int p0), .val (.int p1), .val (.int p2), .val (.int p3), .unset, .unset, .unset] [(.ref b1)]))
  refine Go.via (B := T29.setTop (mkF m 188 #[.val (.int p0), .val (.int p1), .val (.int p2), .val (.int p3), .unset, .unset, .unset] [(.int (983039 : Int32)), (.int (28 : Int32)), (.ref b1), (.ref b1)])) (fun t_ k_ => ?_) ?_
  · show Steps p.tables e below (T29.setTop (mkF m 183 #[.val (.int p0), .val (.int p1), .val (.int p2), .val (.int p3), .unset, .unset, .unset] [(.ref b1)])) t_
    refine XS.dup X29.here hx rfl (hb hby at_183) rfl rfl ?_
    show Steps p.tables e below (T29.setTop (mkF m 184 #[.val (.int p0), .val (.int p1), .val (.int p2), .val (.int p3), .unset, .unset, .unset] [(.ref b1), (.ref b1)])) t_
    refine XS.bipush X29.here hx rfl (hb hby at_184) ?_
    show Steps p.tables e below (T29.setTop (mkF m 186 #[.val (.int p0), .val (.int p1), .val (.int p2), .val (.int p3), .unset, .unset, .unset] [(.int (28 : Int32)), (.ref b1), (.ref b1)])) t_
    refine X29.ldcInt hx hown (mvT hZ (hw _ (List.mem_of_getElem? (i := 7) rfl))) (g := (mkF m 186 #[.val (.int p0), .val (.int p1), .val (.int p2), .val (.int p3), .unset, .unset, .unset] [(.int (28 : Int32)), (.ref b1), (.ref b1)])) rfl (hb hby at_186) _ ?_
    show Steps p.tables e below (T29.setTop (mkF m 188 #[.val (.int p0), .val (.int p1), .val (.int p2), .val (.int p3), .unset, .unset, .unset] [(.int (983039 : Int32)), (.int (28 : Int32)), (.ref b1), (.ref b1)])) t_
    exact k_
  obtain ⟨T30, h30, L30, X30, e30, N30, W30, V30, st30⟩ := aputI X29 hx hZ e29 V29 N29 gb1 (by decide) (by decide) (g := (mkF m 188 #[.val (.int p0), .val (.int p1), .val (.int p2), .val (.int p3), .unset, .unset, .unset] [(.int (983039 : Int32)), (.int (28 : Int32)), (.ref b1), (.ref b1)])) rfl rfl (hb hby at_188)
  have Z30 : n0 ≤ h30.size := Nat.le_trans Z29 (Keep.of_wr W30).1
  clear W30
  refine Go.via st30 ?_
  show Go p.tables e below _ (T30.setTop (mkF m 189 #[.val (.int p0), .val (.int p1), .val (.int p2), .val (.int p3), .unset, .unset, .unset] [(.ref b1)]))
  refine Go.via (B := T30.setTop (mkF m 194 #[.val (.int p0), .val (.int p1), .val (.int p2), .val (.int p3), .unset, .unset, .unset] [(.int (58 : Int32)), (.int (29 : Int32)), (.ref b1), (.ref b1)])) (fun t_ k_ => ?_) ?_
  · show Steps p.tables e below (T30.setTop (mkF m 189 #[.val (.int p0), .val (.int p1), .val (.int p2), .val (.int p3), .unset, .unset, .unset] [(.ref b1)])) t_
    refine XS.dup X30.here hx rfl (hb hby at_189) rfl rfl ?_
    show Steps p.tables e below (T30.setTop (mkF m 190 #[.val (.int p0), .val (.int p1), .val (.int p2), .val (.int p3), .unset, .unset, .unset] [(.ref b1), (.ref b1)])) t_
    refine XS.bipush X30.here hx rfl (hb hby at_190) ?_
    show Steps p.tables e below (T30.setTop (mkF m 192 #[.val (.int p0), .val (.int p1), .val (.int p2), .val (.int p3), .unset, .unset, .unset] [(.int (29 : Int32)), (.ref b1), (.ref b1)])) t_
    refine XS.bipush X30.here hx rfl (hb hby at_192) ?_
    show Steps p.tables e below (T30.setTop (mkF m 194 #[.val (.int p0), .val (.int p1), .val (.int p2), .val (.int p3), .unset, .unset, .unset] [(.int (58 : Int32)), (.int (29 : Int32)), (.ref b1), (.ref b1)])) t_
    exact k_
  obtain ⟨T31, h31, L31, X31, e31, N31, W31, V31, st31⟩ := aputI X30 hx hZ e30 V30 N30 gb1 (by decide) (by decide) (g := (mkF m 194 #[.val (.int p0), .val (.int p1), .val (.int p2), .val (.int p3), .unset, .unset, .unset] [(.int (58 : Int32)), (.int (29 : Int32)), (.ref b1), (.ref b1)])) rfl rfl (hb hby at_194)
  have Z31 : n0 ≤ h31.size := Nat.le_trans Z30 (Keep.of_wr W31).1
  clear W31
  refine Go.via st31 ?_
  show Go p.tables e below _ (T31.setTop (mkF m 195 #[.val (.int p0), .val (.int p1), .val (.int p2), .val (.int p3), .unset, .unset, .unset] [(.ref b1)]))
  refine Go.via (B := T31.setTop (mkF m 199 #[.val (.int p0), .val (.int p1), .val (.int p2), .val (.int p3), .unset, .unset, .unset] [(.int (0 : Int32)), (.int (30 : Int32)), (.ref b1), (.ref b1)])) (fun t_ k_ => ?_) ?_
  · show Steps p.tables e below (T31.setTop (mkF m 195 #[.val (.int p0), .val (.int p1), .val (.int p2), .val (.int p3), .unset, .unset, .unset] [(.ref b1)])) t_
    refine XS.dup X31.here hx rfl (hb hby at_195) rfl rfl ?_
    show Steps p.tables e below (T31.setTop (mkF m 196 #[.val (.int p0), .val (.int p1), .val (.int p2), .val (.int p3), .unset, .unset, .unset] [(.ref b1), (.ref b1)])) t_
    refine XS.bipush X31.here hx rfl (hb hby at_196) ?_
    show Steps p.tables e below (T31.setTop (mkF m 198 #[.val (.int p0), .val (.int p1), .val (.int p2), .val (.int p3), .unset, .unset, .unset] [(.int (30 : Int32)), (.ref b1), (.ref b1)])) t_
    refine XS.iconst X31.here hx rfl (hb hby at_198) ?_
    show Steps p.tables e below (T31.setTop (mkF m 199 #[.val (.int p0), .val (.int p1), .val (.int p2), .val (.int p3), .unset, .unset, .unset] [(.int (0 : Int32)), (.int (30 : Int32)), (.ref b1), (.ref b1)])) t_
    exact k_
  obtain ⟨T32, h32, L32, X32, e32, N32, W32, V32, st32⟩ := aputI X31 hx hZ e31 V31 N31 gb1 (by decide) (by decide) (g := (mkF m 199 #[.val (.int p0), .val (.int p1), .val (.int p2), .val (.int p3), .unset, .unset, .unset] [(.int (0 : Int32)), (.int (30 : Int32)), (.ref b1), (.ref b1)])) rfl rfl (hb hby at_199)
  have Z32 : n0 ≤ h32.size := Nat.le_trans Z31 (Keep.of_wr W32).1
  clear W32
  refine Go.via st32 ?_
  show Go p.tables e below _ (T32.setTop (mkF m 200 #[.val (.int p0), .val (.int p1), .val (.int p2), .val (.int p3), .unset, .unset, .unset] [(.ref b1)]))
  refine Go.via (B := T32.setTop (mkF m 205 #[.val (.int p0), .val (.int p1), .val (.int p2), .val (.int p3), .unset, .unset, .unset] [(.int (-2147483648 : Int32)), (.int (31 : Int32)), (.ref b1), (.ref b1)])) (fun t_ k_ => ?_) ?_
  · show Steps p.tables e below (T32.setTop (mkF m 200 #[.val (.int p0), .val (.int p1), .val (.int p2), .val (.int p3), .unset, .unset, .unset] [(.ref b1)])) t_
    refine XS.dup X32.here hx rfl (hb hby at_200) rfl rfl ?_
    show Steps p.tables e below (T32.setTop (mkF m 201 #[.val (.int p0), .val (.int p1), .val (.int p2), .val (.int p3), .unset, .unset, .unset] [(.ref b1), (.ref b1)])) t_
    refine XS.bipush X32.here hx rfl (hb hby at_201) ?_
    show Steps p.tables e below (T32.setTop (mkF m 203 #[.val (.int p0), .val (.int p1), .val (.int p2), .val (.int p3), .unset, .unset, .unset] [(.int (31 : Int32)), (.ref b1), (.ref b1)])) t_
    refine X32.ldcInt hx hown (mvT hZ (hw _ (List.mem_of_getElem? (i := 8) rfl))) (g := (mkF m 203 #[.val (.int p0), .val (.int p1), .val (.int p2), .val (.int p3), .unset, .unset, .unset] [(.int (31 : Int32)), (.ref b1), (.ref b1)])) rfl (hb hby at_203) _ ?_
    show Steps p.tables e below (T32.setTop (mkF m 205 #[.val (.int p0), .val (.int p1), .val (.int p2), .val (.int p3), .unset, .unset, .unset] [(.int (-2147483648 : Int32)), (.int (31 : Int32)), (.ref b1), (.ref b1)])) t_
    exact k_
  obtain ⟨T33, h33, L33, X33, e33, N33, W33, V33, st33⟩ := aputI X32 hx hZ e32 V32 N32 gb1 (by decide) (by decide) (g := (mkF m 205 #[.val (.int p0), .val (.int p1), .val (.int p2), .val (.int p3), .unset, .unset, .unset] [(.int (-2147483648 : Int32)), (.int (31 : Int32)), (.ref b1), (.ref b1)])) rfl rfl (hb hby at_205)
  have Z33 : n0 ≤ h33.size := Nat.le_trans Z32 (Keep.of_wr W33).1
  clear W33
  refine Go.via st33 ?_
  show Go p.tables e below _ (T33.setTop (mkF m 206 #[.val (.int p0), .val (.int p1), .val (.int p2), .val (.int p3), .unset, .unset, .unset] [(.ref b1)]))
  refine Go.via (B := T33.setTop (mkF m 211 #[.val (.int p0), .val (.int p1), .val (.int p2), .val (.int p3), .unset, .unset, .unset] [(.int (2147483647 : Int32)), (.int (32 : Int32)), (.ref b1), (.ref b1)])) (fun t_ k_ => ?_) ?_
  · show Steps p.tables e below (T33.setTop (mkF m 206 #[.val (.int p0), .val (.int p1), .val (.int p2), .val (.int p3), .unset, .unset, .unset] [(.ref b1)])) t_
    refine XS.dup X33.here hx rfl (hb hby at_206) rfl rfl ?_
    show Steps p.tables e below (T33.setTop (mkF m 207 #[.val (.int p0), .val (.int p1), .val (.int p2), .val (.int p3), .unset, .unset, .unset] [(.ref b1), (.ref b1)])) t_
    refine XS.bipush X33.here hx rfl (hb hby at_207) ?_
    show Steps p.tables e below (T33.setTop (mkF m 209 #[.val (.int p0), .val (.int p1), .val (.int p2), .val (.int p3), .unset, .unset, .unset] [(.int (32 : Int32)), (.ref b1), (.ref b1)])) t_
    refine X33.ldcInt hx hown (mvT hZ (hw _ (List.mem_of_getElem? (i := 9) rfl))) (g := (mkF m 209 #[.val (.int p0), .val (.int p1), .val (.int p2), .val (.int p3), .unset, .unset, .unset] [(.int (32 : Int32)), (.ref b1), (.ref b1)])) rfl (hb hby at_209) _ ?_
    show Steps p.tables e below (T33.setTop (mkF m 211 #[.val (.int p0), .val (.int p1), .val (.int p2), .val (.int p3), .unset, .unset, .unset] [(.int (2147483647 : Int32)), (.int (32 : Int32)), (.ref b1), (.ref b1)])) t_
    exact k_
  obtain ⟨T34, h34, L34, X34, e34, N34, W34, V34, st34⟩ := aputI X33 hx hZ e33 V33 N33 gb1 (by decide) (by decide) (g := (mkF m 211 #[.val (.int p0), .val (.int p1), .val (.int p2), .val (.int p3), .unset, .unset, .unset] [(.int (2147483647 : Int32)), (.int (32 : Int32)), (.ref b1), (.ref b1)])) rfl rfl (hb hby at_211)
  have Z34 : n0 ≤ h34.size := Nat.le_trans Z33 (Keep.of_wr W34).1
  clear W34
  refine Go.via st34 ?_
  show Go p.tables e below _ (T34.setTop (mkF m 212 #[.val (.int p0), .val (.int p1), .val (.int p2), .val (.int p3), .unset, .unset, .unset] [(.ref b1)]))
  refine Go.via (B := T34.setTop (mkF m 217 #[.val (.int p0), .val (.int p1), .val (.int p2), .val (.int p3), .val (.ref b1), .unset, .unset] [(.int (p3 &&& (1 : Int32)))])) (fun t_ k_ => ?_) ?_
  · show Steps p.tables e below (T34.setTop (mkF m 212 #[.val (.int p0), .val (.int p1), .val (.int p2), .val (.int p3), .unset, .unset, .unset] [(.ref b1)])) t_
    refine XS.astore X34.here hx rfl (hb hby at_212) rfl rfl (l' := #[.val (.int p0), .val (.int p1), .val (.int p2), .val (.int p3), .val (.ref b1), .unset, .unset]) rfl ?_
    show Steps p.tables e below (T34.setTop (mkF m 214 #[.val (.int p0), .val (.int p1), .val (.int p2), .val (.int p3), .val (.ref b1), .unset, .unset] [])) t_
    refine XS.iloadN X34.here hx rfl (hb hby at_214) rfl ?_
    show Steps p.tables e below (T34.setTop (mkF m 215 #[.val (.int p0), .val (.int p1), .val (.int p2), .val (.int p3), .val (.ref b1), .unset, .unset] [(.int p3)])) t_
    refine XS.iconst X34.here hx rfl (hb hby at_215) ?_
    show Steps p.tables e below (T34.setTop (mkF m 216 #[.val (.int p0), .val (.int p1), .val (.int p2), .val (.int p3), .val (.ref b1), .unset, .unset] [(.int (1 : Int32)), (.int p3)])) t_
    refine XS.iand X34.here hx rfl (hb hby at_216) rfl ?_
    show Steps p.tables e below (T34.setTop (mkF m 217 #[.val (.int p0), .val (.int p1), .val (.int p2), .val (.int p3), .val (.ref b1), .unset, .unset] [(.int (p3 &&& (1 : Int32)))])) t_
    exact k_
  have own_tail : ∀ (q : Int32) (s6 : Slot), Go p.tables e below (PQ s below (fun v h L => v = some (.int 1) ∧ Fr n0 L) 16 192) (T34.setTop (mkF m 247 #[.val (.int p0), .val (.int p1), .val (.int p2), .val (.int p3), .val (.ref b1), .val (.int q), s6] [])) := by
    intro q s6
    refine Go.via (B := T34.setTop (mkF m 249 #[.val (.int p0), .val (.int p1), .val (.int p2), .val (.int p3), .val (.ref b1), .val (.int q), s6] [(.int q)])) (fun t_ k_ => ?_) ?_
    · show Steps p.tables e below (T34.setTop (mkF m 247 #[.val (.int p0), .val (.int p1), .val (.int p2), .val (.int p3), .val (.ref b1), .val (.int q), s6] [])) t_
      refine XS.iload X34.here hx rfl (hb hby at_247) rfl ?_
      show Steps p.tables e below (T34.setTop (mkF m 249 #[.val (.int p0), .val (.int p1), .val (.int p2), .val (.int p3), .val (.ref b1), .val (.int q), s6] [(.int q)])) t_
      exact k_
    obtain ⟨_, _, ⟨T35, L35, k35, n35⟩, -, X35, ⟨Lc35, hQ35, l35, y35, z35⟩, st35⟩ := Jvm.LawKit.callS X34 hx (y := (⟨"com/example/stylesheet_processor/stylesheetprocessor/model/Names", "isNCNameStartChar", "(I)Z"⟩ : MethodName)) hown (mvT hZ (hw _ (List.mem_of_getElem? (i := 10) rfl))) (mvT hZ (hw _ (List.mem_of_getElem? (i := 11) rfl))) (mvT hZ (hw _ (List.mem_of_getElem? (i := 12) rfl))) (mvT hZ (hw _ (List.mem_of_getElem? (i := 13) rfl))) (by decide) (backOf (W := 0) (rm1 l Z a0 hw [] q  h34 n0 Z34 ) hZ (hw _ (List.mem_of_getElem? (i := 13) rfl)) (hw _ (List.mem_of_getElem? (i := 12) rfl)) (by decide) (by decide)) (g := (mkF m 249 #[.val (.int p0), .val (.int p1), .val (.int p2), .val (.int p3), .val (.ref b1), .val (.int q), s6] [(.int q)])) rfl (by rw [hml]; rfl) (argsL := [(.int q)]) (rest := []) (lenOf pd0 rfl) rfl (by show 2 * 0 + _ ≤ _; exact Nat.le_of_eq rfl) (hb hby at_249) (fun _ _ => ⟨rfl, e34, (by decide : 1 + 0 ≤ _), (by decide : 33 + 0 ≤ _)⟩)
    dsimp only [Pt.U, Pt.locs, Pt.cells, Pt.slots] at X35 l35 y35 z35 st35 hQ35
    subst l35 y35 z35
    obtain ⟨rfl, N35q, e35⟩ := hQ35
    have N35 := Fr.app N34 N35q
    refine Go.via st35 ?_
    show Go p.tables e below _ (T35.setTop (mkF m 252 #[.val (.int p0), .val (.int p1), .val (.int p2), .val (.int p3), .val (.ref b1), .val (.int q), s6] [(.int (F1_0 q))]))
    refine Go.via (B := T35.setTop (mkF m 254 #[.val (.int p0), .val (.int p1), .val (.int p2), .val (.int p3), .val (.ref b1), .val (.int q), s6] [(.int q), (.int (F1_0 q))])) (fun t_ k_ => ?_) ?_
    · show Steps p.tables e below (T35.setTop (mkF m 252 #[.val (.int p0), .val (.int p1), .val (.int p2), .val (.int p3), .val (.ref b1), .val (.int q), s6] [(.int (F1_0 q))])) t_
      refine XS.iload X35.here hx rfl (hb hby at_252) rfl ?_
      show Steps p.tables e below (T35.setTop (mkF m 254 #[.val (.int p0), .val (.int p1), .val (.int p2), .val (.int p3), .val (.ref b1), .val (.int q), s6] [(.int q), (.int (F1_0 q))])) t_
      exact k_
    obtain ⟨_, _, ⟨T36, L36, k36, n36⟩, -, X36, ⟨Lc36, hQ36, l36, y36, z36⟩, st36⟩ := Jvm.LawKit.callS X35 hx (y := (⟨"com/example/stylesheet_processor/stylesheetprocessor/model/NamesIsNCNameStartCharPinLaw", "excluded", "(I)Z"⟩ : MethodName)) hown (mvT hZ (hw _ (List.mem_of_getElem? (i := 17) rfl))) (mvT hZ (hw _ (List.mem_of_getElem? (i := 18) rfl))) (mvT hZ (hw _ (List.mem_of_getElem? (i := 19) rfl))) (mvT hZ (hw _ (List.mem_of_getElem? (i := 20) rfl))) (by decide) (backOf (W := 1) (rm2 l Z a0 hw [] q  h34 n0 Z34 ) hZ (hw _ (List.mem_of_getElem? (i := 20) rfl)) (hw _ (List.mem_of_getElem? (i := 19) rfl)) (by decide) (by decide)) (g := (mkF m 254 #[.val (.int p0), .val (.int p1), .val (.int p2), .val (.int p3), .val (.ref b1), .val (.int q), s6] [(.int q), (.int (F1_0 q))])) rfl (by rw [hml]; rfl) (argsL := [(.int q)]) (rest := [(.int (F1_0 q))]) (lenOf pd0 rfl) rfl (by show 2 * 0 + _ ≤ _; exact Nat.le_of_eq rfl) (hb hby at_254) (fun _ _ => ⟨rfl, e35, (by decide : 1 + 0 ≤ _), (by decide : 33 + 0 ≤ _)⟩)
    dsimp only [Pt.U, Pt.locs, Pt.cells, Pt.slots] at X36 l36 y36 z36 st36 hQ36
    subst l36 y36 z36
    obtain ⟨rfl, N36q, e36⟩ := hQ36
    have N36 := Fr.app N35 N36q
    refine Go.via st36 ?_
    show Go p.tables e below _ (T36.setTop (mkF m 257 #[.val (.int p0), .val (.int p1), .val (.int p2), .val (.int p3), .val (.ref b1), .val (.int q), s6] [(.int (F2_0 q)), (.int (F1_0 q))]))
    rcases own_both q with ⟨ha, hb'⟩ | ⟨ha, hb'⟩
    · rw [ha, hb']
      show Go p.tables e below _ (T36.setTop (mkF m 257 #[.val (.int p0), .val (.int p1), .val (.int p2), .val (.int p3), .val (.ref b1), .val (.int q), s6] [(.int (0 : Int32)), (.int (1 : Int32))]))
      refine Go.via (B := T36.setTop (mkF m 260 #[.val (.int p0), .val (.int p1), .val (.int p2), .val (.int p3), .val (.ref b1), .val (.int q), s6] [(.int (1 : Int32))])) (fun t_ k_ => XS.ifNo X36.here hx rfl (hb hby at_257) rfl (((if0 _ _).trans (teq (rfl : (0 : Int32) = (0 : Int32))).2)) k_) ?_
      refine Go.via (B := T36.setTop (mkF m 265 #[.val (.int p0), .val (.int p1), .val (.int p2), .val (.int p3), .val (.ref b1), .val (.int q), s6] [(.int (1 : Int32)), (.int (1 : Int32))])) (fun t_ k_ => ?_) ?_
      · show Steps p.tables e below (T36.setTop (mkF m 260 #[.val (.int p0), .val (.int p1), .val (.int p2), .val (.int p3), .val (.ref b1), .val (.int q), s6] [(.int (1 : Int32))])) t_
        refine XS.iconst X36.here hx rfl (hb hby at_260) ?_
        show Steps p.tables e below (T36.setTop (mkF m 261 #[.val (.int p0), .val (.int p1), .val (.int p2), .val (.int p3), .val (.ref b1), .val (.int q), s6] [(.int (1 : Int32)), (.int (1 : Int32))])) t_
        refine XS.goto X36.here hx rfl (pc0 := 261) (pc' := 265) rfl (hb hby at_261) (by decide) (by decide) ?_
        show Steps p.tables e below (T36.setTop (mkF m 265 #[.val (.int p0), .val (.int p1), .val (.int p2), .val (.int p3), .val (.ref b1), .val (.int q), s6] [(.int (1 : Int32)), (.int (1 : Int32))])) t_
        exact k_
      refine Go.via (B := T36.setTop (mkF m 268 #[.val (.int p0), .val (.int p1), .val (.int p2), .val (.int p3), .val (.ref b1), .val (.int q), s6] [])) (fun t_ k_ => XS.icmpNo X36.here hx rfl (hb hby at_265) rfl ((teq (rfl : (1 : Int32) = (1 : Int32))).2) k_) ?_
      refine Go.via (B := T36.setTop (mkF m 273 #[.val (.int p0), .val (.int p1), .val (.int p2), .val (.int p3), .val (.ref b1), .val (.int q), s6] [(.int (1 : Int32))])) (fun t_ k_ => ?_) ?_
      · show Steps p.tables e below (T36.setTop (mkF m 268 #[.val (.int p0), .val (.int p1), .val (.int p2), .val (.int p3), .val (.ref b1), .val (.int q), s6] [])) t_
        refine XS.iconst X36.here hx rfl (hb hby at_268) ?_
        show Steps p.tables e below (T36.setTop (mkF m 269 #[.val (.int p0), .val (.int p1), .val (.int p2), .val (.int p3), .val (.ref b1), .val (.int q), s6] [(.int (1 : Int32))])) t_
        refine XS.goto X36.here hx rfl (pc0 := 269) (pc' := 273) rfl (hb hby at_269) (by decide) (by decide) ?_
        show Steps p.tables e below (T36.setTop (mkF m 273 #[.val (.int p0), .val (.int p1), .val (.int p2), .val (.int p3), .val (.ref b1), .val (.int q), s6] [(.int (1 : Int32))])) t_
        exact k_
      exact Go.leave X36 hlk (v := (some (.int (1 : Int32)))) (fun h => by rw [hrt] at h; cases h) (fun fs hr => retN X36 hx (t := .boolean) hrt (by simp) (hb hby at_273) hr) (by decide) (by decide) (⟨rfl, N36⟩)
    · rw [ha, hb']
      show Go p.tables e below _ (T36.setTop (mkF m 257 #[.val (.int p0), .val (.int p1), .val (.int p2), .val (.int p3), .val (.ref b1), .val (.int q), s6] [(.int (1 : Int32)), (.int (0 : Int32))]))
      refine Go.via (B := T36.setTop (mkF m 264 #[.val (.int p0), .val (.int p1), .val (.int p2), .val (.int p3), .val (.ref b1), .val (.int q), s6] [(.int (0 : Int32))])) (fun t_ k_ => XS.ifYes X36.here hx rfl (pc0 := 257) (pc' := 264) rfl (hb hby at_257) rfl (((if0 _ _).trans (feq (by decide : ¬ (1 : Int32) = (0 : Int32))).2)) (by decide) (by decide) k_) ?_
      refine Go.via (B := T36.setTop (mkF m 265 #[.val (.int p0), .val (.int p1), .val (.int p2), .val (.int p3), .val (.ref b1), .val (.int q), s6] [(.int (0 : Int32)), (.int (0 : Int32))])) (fun t_ k_ => ?_) ?_
      · show Steps p.tables e below (T36.setTop (mkF m 264 #[.val (.int p0), .val (.int p1), .val (.int p2), .val (.int p3), .val (.ref b1), .val (.int q), s6] [(.int (0 : Int32))])) t_
        refine XS.iconst X36.here hx rfl (hb hby at_264) ?_
        show Steps p.tables e below (T36.setTop (mkF m 265 #[.val (.int p0), .val (.int p1), .val (.int p2), .val (.int p3), .val (.ref b1), .val (.int q), s6] [(.int (0 : Int32)), (.int (0 : Int32))])) t_
        exact k_
      refine Go.via (B := T36.setTop (mkF m 268 #[.val (.int p0), .val (.int p1), .val (.int p2), .val (.int p3), .val (.ref b1), .val (.int q), s6] [])) (fun t_ k_ => XS.icmpNo X36.here hx rfl (hb hby at_265) rfl ((teq (rfl : (0 : Int32) = (0 : Int32))).2) k_) ?_
      refine Go.via (B := T36.setTop (mkF m 273 #[.val (.int p0), .val (.int p1), .val (.int p2), .val (.int p3), .val (.ref b1), .val (.int q), s6] [(.int (1 : Int32))])) (fun t_ k_ => ?_) ?_
      · show Steps p.tables e below (T36.setTop (mkF m 268 #[.val (.int p0), .val (.int p1), .val (.int p2), .val (.int p3), .val (.ref b1), .val (.int q), s6] [])) t_
        refine XS.iconst X36.here hx rfl (hb hby at_268) ?_
        show Steps p.tables e below (T36.setTop (mkF m 269 #[.val (.int p0), .val (.int p1), .val (.int p2), .val (.int p3), .val (.ref b1), .val (.int q), s6] [(.int (1 : Int32))])) t_
        refine XS.goto X36.here hx rfl (pc0 := 269) (pc' := 273) rfl (hb hby at_269) (by decide) (by decide) ?_
        show Steps p.tables e below (T36.setTop (mkF m 273 #[.val (.int p0), .val (.int p1), .val (.int p2), .val (.int p3), .val (.ref b1), .val (.int q), s6] [(.int (1 : Int32))])) t_
        exact k_
      exact Go.leave X36 hlk (v := (some (.int (1 : Int32)))) (fun h => by rw [hrt] at h; cases h) (fun fs hr => retN X36 hx (t := .boolean) hrt (by simp) (hb hby at_273) hr) (by decide) (by decide) (⟨rfl, N36⟩)
  by_cases hc217 : (p3 &&& (1 : Int32)) = (0 : Int32)
  · refine Go.via (B := T34.setTop (mkF m 226 #[.val (.int p0), .val (.int p1), .val (.int p2), .val (.int p3), .val (.ref b1), .unset, .unset] [])) (fun t_ k_ => XS.ifYes X34.here hx rfl (pc0 := 217) (pc' := 226) rfl (hb hby at_217) rfl (((if0 _ _).trans (teq hc217).1)) (by decide) (by decide) k_) ?_
    refine Go.via (B := T34.setTop (mkF m 232 #[.val (.int p0), .val (.int p1), .val (.int p2), .val (.int p3), .val (.ref b1), .unset, .unset] [(.ref b1), (.int (p1 &&& (2147483647 : Int32)))])) (fun t_ k_ => ?_) ?_
    · show Steps p.tables e below (T34.setTop (mkF m 226 #[.val (.int p0), .val (.int p1), .val (.int p2), .val (.int p3), .val (.ref b1), .unset, .unset] [])) t_
      refine XS.iloadN X34.here hx rfl (hb hby at_226) rfl ?_
      show Steps p.tables e below (T34.setTop (mkF m 227 #[.val (.int p0), .val (.int p1), .val (.int p2), .val (.int p3), .val (.ref b1), .unset, .unset] [(.int p1)])) t_
      refine X34.ldcInt hx hown (mvT hZ (hw _ (List.mem_of_getElem? (i := 9) rfl))) (g := (mkF m 227 #[.val (.int p0), .val (.int p1), .val (.int p2), .val (.int p3), .val (.ref b1), .unset, .unset] [(.int p1)])) rfl (hb hby at_227) _ ?_
      show Steps p.tables e below (T34.setTop (mkF m 229 #[.val (.int p0), .val (.int p1), .val (.int p2), .val (.int p3), .val (.ref b1), .unset, .unset] [(.int (2147483647 : Int32)), (.int p1)])) t_
      refine XS.iand X34.here hx rfl (hb hby at_229) rfl ?_
      show Steps p.tables e below (T34.setTop (mkF m 230 #[.val (.int p0), .val (.int p1), .val (.int p2), .val (.int p3), .val (.ref b1), .unset, .unset] [(.int (p1 &&& (2147483647 : Int32)))])) t_
      refine XS.aload X34.here hx rfl (hb hby at_230) rfl rfl ?_
      show Steps p.tables e below (T34.setTop (mkF m 232 #[.val (.int p0), .val (.int p1), .val (.int p2), .val (.int p3), .val (.ref b1), .unset, .unset] [(.ref b1), (.int (p1 &&& (2147483647 : Int32)))])) t_
      exact k_
    refine Go.via (B := T34.setTop (mkF m 233 #[.val (.int p0), .val (.int p1), .val (.int p2), .val (.int p3), .val (.ref b1), .unset, .unset] [(.int (33 : Int32)), (.int (p1 &&& (2147483647 : Int32)))])) (fun t_ k_ => alen X34 hx hZ e34 V34 (g := (mkF m 232 #[.val (.int p0), .val (.int p1), .val (.int p2), .val (.int p3), .val (.ref b1), .unset, .unset] [(.ref b1), (.int (p1 &&& (2147483647 : Int32)))])) rfl rfl (hb hby at_232) t_ k_) ?_
    refine Go.via (B := T34.setTop (mkF m 240 #[.val (.int p0), .val (.int p1), .val (.int p2), .val (.int p3), .val (.ref b1), .unset, .val (.int ((p1 &&& (2147483647 : Int32)) % (33 : Int32)))] [(.int ((p1 &&& (2147483647 : Int32)) % (33 : Int32))), (.ref b1)])) (fun t_ k_ => ?_) ?_
    · show Steps p.tables e below (T34.setTop (mkF m 233 #[.val (.int p0), .val (.int p1), .val (.int p2), .val (.int p3), .val (.ref b1), .unset, .unset] [(.int (33 : Int32)), (.int (p1 &&& (2147483647 : Int32)))])) t_
      refine iremM X34 hx rfl (hb hby at_233) rfl (by decide) ?_
      show Steps p.tables e below (T34.setTop (mkF m 234 #[.val (.int p0), .val (.int p1), .val (.int p2), .val (.int p3), .val (.ref b1), .unset, .unset] [(.int ((p1 &&& (2147483647 : Int32)) % (33 : Int32)))])) t_
      refine XS.istore X34.here hx rfl (hb hby at_234) rfl (l' := #[.val (.int p0), .val (.int p1), .val (.int p2), .val (.int p3), .val (.ref b1), .unset, .val (.int ((p1 &&& (2147483647 : Int32)) % (33 : Int32)))]) rfl ?_
      show Steps p.tables e below (T34.setTop (mkF m 236 #[.val (.int p0), .val (.int p1), .val (.int p2), .val (.int p3), .val (.ref b1), .unset, .val (.int ((p1 &&& (2147483647 : Int32)) % (33 : Int32)))] [])) t_
      refine XS.aload X34.here hx rfl (hb hby at_236) rfl rfl ?_
      show Steps p.tables e below (T34.setTop (mkF m 238 #[.val (.int p0), .val (.int p1), .val (.int p2), .val (.int p3), .val (.ref b1), .unset, .val (.int ((p1 &&& (2147483647 : Int32)) % (33 : Int32)))] [(.ref b1)])) t_
      refine XS.iload X34.here hx rfl (hb hby at_238) rfl ?_
      show Steps p.tables e below (T34.setTop (mkF m 240 #[.val (.int p0), .val (.int p1), .val (.int p2), .val (.int p3), .val (.ref b1), .unset, .val (.int ((p1 &&& (2147483647 : Int32)) % (33 : Int32)))] [(.int ((p1 &&& (2147483647 : Int32)) % (33 : Int32))), (.ref b1)])) t_
      exact k_
    obtain ⟨cl, Ar, S, B, H⟩ := id V34
    obtain ⟨q, hq⟩ : ∃ q : Int32, cl.slots[(((p1 &&& (2147483647 : Int32)) % (33 : Int32))).toNatClampNeg]? = some (.int q) := ⟨_, (H _ (own_idx p1).2).1⟩
    refine Go.via (B := T34.setTop (mkF m 241 #[.val (.int p0), .val (.int p1), .val (.int p2), .val (.int p3), .val (.ref b1), .unset, .val (.int ((p1 &&& (2147483647 : Int32)) % (33 : Int32)))] [(.int q)])) (fun t_ k_ => X34.iaload hx (j := ((p1 &&& (2147483647 : Int32)) % (33 : Int32))) (v := .int q) (by rw [e34]; exact Ar.1) (State.isArrayOf_alike hZ.alike Ar.2.1) Ar.2.2 (by rw [S]; intro u; rcases u with u | u; exact (own_idx p1).1 u; exact absurd (own_idx p1).2 (Nat.not_lt.mpr u)) hq (g := (mkF m 240 #[.val (.int p0), .val (.int p1), .val (.int p2), .val (.int p3), .val (.ref b1), .unset, .val (.int ((p1 &&& (2147483647 : Int32)) % (33 : Int32)))] [(.int ((p1 &&& (2147483647 : Int32)) % (33 : Int32))), (.ref b1)])) rfl rfl (hb hby at_240) t_ k_) ?_
    refine Go.via (B := T34.setTop (mkF m 247 #[.val (.int p0), .val (.int p1), .val (.int p2), .val (.int p3), .val (.ref b1), .val (.int (q + (p2 % (3 : Int32)))), .val (.int ((p1 &&& (2147483647 : Int32)) % (33 : Int32)))] [])) (fun t_ k_ => ?_) ?_
    · show Steps p.tables e below (T34.setTop (mkF m 241 #[.val (.int p0), .val (.int p1), .val (.int p2), .val (.int p3), .val (.ref b1), .unset, .val (.int ((p1 &&& (2147483647 : Int32)) % (33 : Int32)))] [(.int q)])) t_
      refine XS.iloadN X34.here hx rfl (hb hby at_241) rfl ?_
      show Steps p.tables e below (T34.setTop (mkF m 242 #[.val (.int p0), .val (.int p1), .val (.int p2), .val (.int p3), .val (.ref b1), .unset, .val (.int ((p1 &&& (2147483647 : Int32)) % (33 : Int32)))] [(.int p2), (.int q)])) t_
      refine XS.iconst X34.here hx rfl (hb hby at_242) ?_
      show Steps p.tables e below (T34.setTop (mkF m 243 #[.val (.int p0), .val (.int p1), .val (.int p2), .val (.int p3), .val (.ref b1), .unset, .val (.int ((p1 &&& (2147483647 : Int32)) % (33 : Int32)))] [(.int (3 : Int32)), (.int p2), (.int q)])) t_
      refine iremM X34 hx rfl (hb hby at_243) rfl (by decide) ?_
      show Steps p.tables e below (T34.setTop (mkF m 244 #[.val (.int p0), .val (.int p1), .val (.int p2), .val (.int p3), .val (.ref b1), .unset, .val (.int ((p1 &&& (2147483647 : Int32)) % (33 : Int32)))] [(.int (p2 % (3 : Int32))), (.int q)])) t_
      refine XS.iadd X34.here hx rfl (hb hby at_244) rfl ?_
      show Steps p.tables e below (T34.setTop (mkF m 245 #[.val (.int p0), .val (.int p1), .val (.int p2), .val (.int p3), .val (.ref b1), .unset, .val (.int ((p1 &&& (2147483647 : Int32)) % (33 : Int32)))] [(.int (q + (p2 % (3 : Int32))))])) t_
      refine XS.istore X34.here hx rfl (hb hby at_245) rfl (l' := #[.val (.int p0), .val (.int p1), .val (.int p2), .val (.int p3), .val (.ref b1), .val (.int (q + (p2 % (3 : Int32)))), .val (.int ((p1 &&& (2147483647 : Int32)) % (33 : Int32)))]) rfl ?_
      show Steps p.tables e below (T34.setTop (mkF m 247 #[.val (.int p0), .val (.int p1), .val (.int p2), .val (.int p3), .val (.ref b1), .val (.int (q + (p2 % (3 : Int32)))), .val (.int ((p1 &&& (2147483647 : Int32)) % (33 : Int32)))] [])) t_
      exact k_
    exact own_tail _ _
  · refine Go.via (B := T34.setTop (mkF m 220 #[.val (.int p0), .val (.int p1), .val (.int p2), .val (.int p3), .val (.ref b1), .unset, .unset] [])) (fun t_ k_ => XS.ifNo X34.here hx rfl (hb hby at_217) rfl (((if0 _ _).trans (feq hc217).1)) k_) ?_
    refine Go.via (B := T34.setTop (mkF m 247 #[.val (.int p0), .val (.int p1), .val (.int p2), .val (.int p3), .val (.ref b1), .val (.int p0), .unset] [])) (fun t_ k_ => ?_) ?_
    · show Steps p.tables e below (T34.setTop (mkF m 220 #[.val (.int p0), .val (.int p1), .val (.int p2), .val (.int p3), .val (.ref b1), .unset, .unset] [])) t_
      refine XS.iloadN X34.here hx rfl (hb hby at_220) rfl ?_
      show Steps p.tables e below (T34.setTop (mkF m 221 #[.val (.int p0), .val (.int p1), .val (.int p2), .val (.int p3), .val (.ref b1), .unset, .unset] [(.int p0)])) t_
      refine XS.istore X34.here hx rfl (hb hby at_221) rfl (l' := #[.val (.int p0), .val (.int p1), .val (.int p2), .val (.int p3), .val (.ref b1), .val (.int p0), .unset]) rfl ?_
      show Steps p.tables e below (T34.setTop (mkF m 223 #[.val (.int p0), .val (.int p1), .val (.int p2), .val (.int p3), .val (.ref b1), .val (.int p0), .unset] [])) t_
      refine XS.goto X34.here hx rfl (pc0 := 223) (pc' := 247) rfl (hb hby at_223) (by decide) (by decide) ?_
      show Steps p.tables e below (T34.setTop (mkF m 247 #[.val (.int p0), .val (.int p1), .val (.int p2), .val (.int p3), .val (.ref b1), .val (.int p0), .unset] [])) t_
      exact k_
    exact own_tail _ _
set_option maxRecDepth 65536 in
set_option maxHeartbeats 40000000 in
theorem comes_1 {Post : Tables → Env → Array Value → State → Outcome → State → Prop} (hpost : ∀ tb e args s v u, (limb_1_1.after args s (.returned v) u = true ∧ limb_1_2.after args s (.returned v) u = true ∧ True) → FrameEnd s (.returned v) u (Jvm.fieldLocs frame_1_writes args s ++ Jvm.arrayLocs frame_1_arrays args s ++ Jvm.staticLocs frame_1_statics s) 16 192 → Post tb e args s (.returned v) u) :
    ArmFor flags0 classFile x code maxLocals ret World_1 tables_1 room_1 Calls_1 rest_1 Pre_1 Post := by
  intro l hfl _ _ p e ha hc hk s m args below hf hA hF happ hP
  obtain ⟨hcalls, hrest, hpre⟩ := hP
  obtain ⟨-, -, -, hnamed, -, -, -, hat⟩ := (Spec.applies_iff hf).mp happ
  obtain ⟨hg, hn⟩ := and_e (Cond.before_iff.mp (show (Jvm.Cond.and given_1 narrow_1).before args s = true from hpre))
  obtain ⟨hcount, hg0⟩ := and_e hg
  obtain ⟨ha0, hg1⟩ := and_e hg0
  obtain ⟨ha1, hg2⟩ := and_e hg1
  obtain ⟨ha2, hg3⟩ := and_e hg2
  have ha3 := hg3
  obtain ⟨w0, w1, w2, w3, rfl⟩ : ∃ w0 w1 w2 w3 : Value, args = #[w0, w1, w2, w3] := by
    have hs : args.size = 4 := by simpa [Cond.value, given_1] using hcount
    obtain ⟨L⟩ := args
    match L, hs with
    | [w0, w1, w2, w3], _ => exact ⟨w0, w1, w2, w3, rfl⟩
  have hw := fun d (hd : d ∈ tables_1) => atoms_spec (ws := Jvm.Cond.code x code maxLocals ret :: tables_1) hat d (List.mem_cons_of_mem _ hd)
  have hfit : Fit s := fun {y c} hc i hi => by
    obtain ⟨ha, rfl⟩ := Array.getElem?_eq_some_iff.mp hc
    have q := List.all_eq_true.mp ((Array.all_eq_true_iff_forall_mem.mp hF) _ (Array.getElem_mem ha)) i (List.mem_range.mpr hi)
    simpa [Array.getElem?_eq_getElem hi] using q
  obtain ⟨i0, ei0⟩ := is_v ha0
  obtain rfl : w0 = (.int i0) := Option.some.inj ei0
  obtain ⟨i1, ei1⟩ := is_v ha1
  obtain rfl : w1 = (.int i1) := Option.some.inj ei1
  obtain ⟨i2, ei2⟩ := is_v ha2
  obtain rfl : w2 = (.int i2) := Option.some.inj ei2
  obtain ⟨i3, ei3⟩ := is_v ha3
  obtain rfl : w3 = (.int i3) := Option.some.inj ei3
  obtain ⟨n, o, h1, h2, h3, _, L, rfl, ⟨rfl, N⟩, hq⟩ := rm0 l s _ hw tables_1 i0 i1 i2 i3  s.heap s.heap.size (Nat.le_refl _)  p e ha hc hk s m _ below hf ((Spec.applies_iff_loose hf).mp happ).1 ⟨rfl, State.Warmed39.refl s, rfl⟩ trivial
  refine ⟨n, _, h1, h2, h3, hpost _ _ _ _ _ _ ⟨Cond.after_iff.mpr rfl, Cond.after_iff.mpr (eq_i res_at (Term.int_eval (1)) rfl), trivial⟩ ⟨hq.1, hq.2.1, (hq.2.2.sift fun y hy => Or.inr (N y hy)).mono (by decide) (by decide)⟩⟩
theorem main_1_1 : Claimed_1_1 := comes_1 fun _ _ _ _ _ _ h hF => ⟨h.1, hF⟩
theorem main_1_2 : Claimed_1_2 := comes_1 fun _ _ _ _ _ _ h hF => ⟨h.2.1, hF⟩
end Jvm.Pilot.@@N@@
namespace Jvm.Pilot.@@N@@
open Jvm Jvm.ClassFile Sem Op Lib Jvm.Free Jvm.Stand Jvm.Pilot.@@N@@.Jvm.D
/-! MADE BY PROGRAM (witnessworld.py) out of the Statement's table words and the real class files: 9 classes; the members and pool entries that the words name. The judged class is class 1, her method 2. -/
namespace start1
open Jvm.ClassFile
def u (s : String) : CpInfo := .utf8 (stringToUtf16 s)
/-- a pool by its gaps: so many unusable entries, then the entry; so many at the end -/
def gap : Nat → List CpInfo → List CpInfo
  | 0, r => r
  | n + 1, r => .unusable :: gap n r
def poolList (es : List (Nat × CpInfo)) (last : Nat) : List CpInfo := es.foldr (fun e r => gap e.1 (e.2 :: r)) (gap last [])
def pool (es : List (Nat × CpInfo)) (last : Nat) : Array CpInfo := ⟨poolList es last⟩
def fileOf (pool : Array CpInfo) (this : Nat) (attrs : Array Attribute := #[]) (ms : Array MethodInfo := #[]) (fl : Nat := 33) (sup : Nat := 0) (ifs : Array Nat := #[]) (fds : Array FieldInfo := #[]) : ClassFile where
  minorVersion := 0
  majorVersion := 65
  constantPool := pool
  accessFlags := fl
  thisClass := this
  superClass := sup
  interfaces := ifs
  fields := fds
  methods := ms
  attributes := attrs
def plain (name : String) (sup : Option ClassId) : Class where
  name := name
  kind := .ordinary
  loader := none
  accessFlags := 33
  super := sup
  interfaces := #[]
  cf := none
  fields := #[]
  methods := #[]
  instanceTypes := #[]
  staticTypes := #[]
  resolved := #[]
  callSites := []
  init := .initialized
  statics := none
  mirror := none

def pool0 : Array CpInfo := pool [(5, u "<init>"), (0, u "()V"), (1, .class_ 10), (1, u "java/lang/Object")] 113

def k0m0 : Method := { name := "<init>", desc := "()V", sig := { parameters := [], returnType := none }, accessFlags := 1, code := none }
/-- java/lang/Object -/
def k0 : Class := { plain "java/lang/Object" none with
  accessFlags := 33
  interfaces := #[]
  cf := some (fileOf pool0 8 #[] #[{ accessFlags := 1, nameIndex := 5, descriptorIndex := 6, attributes := #[] }] 33 0 #[] #[])
  fields := #[]
  methods := #[k0m0]
  instanceTypes := #[]
  staticTypes := #[]
  resolved := Array.replicate 124 none
  statics := none }

def pool1 : Array CpInfo := pool [(2, .class_ 4), (1, u "java/lang/Object"), (0, u "<init>"), (0, u "()V"), (0, .integer 55296), (0, .integer 63743), (0, .integer 64976), (0, .integer 65007), (0, .integer 65534), (0, .integer 65535), (0, .integer 983040), (0, .integer 55295), (0, .integer 63744), (0, .integer 64975), (0, .integer 65008), (0, .integer 65533), (0, .integer 65536), (0, .integer 983039), (2, .integer 2147483648), (0, .integer 2147483647), (0, .methodref 26 27), (0, .class_ 28), (0, .nameAndType 29 30), (0, u "com/example/stylesheet_processor/stylesheetprocessor/model/Names"), (0, u "isNCNameStartChar"), (0, u "(I)Z"), (0, .methodref 32 33), (0, .class_ 34), (0, .nameAndType 35 30), (0, u "com/example/stylesheet_processor/stylesheetprocessor/model/NamesIsNCNameStartCharPinLaw"), (0, u "excluded"), (3, u "law"), (0, u "(IIII)Z")] 4

def k1m0 : Method := { name := "<init>", desc := "()V", sig := { parameters := [], returnType := none }, accessFlags := 2, code := none }
def k1c1 : Code := { maxStack := 2, maxLocals := 1, code := method_2_code, exceptionTable := #[], attributes := #[] }
def k1m1 : Method := { name := "excluded", desc := "(I)Z", sig := { parameters := [.int], returnType := some .boolean }, accessFlags := 10, code := some k1c1 }
def k1c2 : Code := { maxStack := 4, maxLocals := 7, code := code, exceptionTable := #[], attributes := #[] }
def k1m2 : Method := { name := "law", desc := "(IIII)Z", sig := { parameters := [.int, .int, .int, .int], returnType := some .boolean }, accessFlags := 9, code := some k1c2 }
/-- com/example/stylesheet_processor/stylesheetprocessor/model/NamesIsNCNameStartCharPinLaw -/
def k1 : Class := { plain "com/example/stylesheet_processor/stylesheetprocessor/model/NamesIsNCNameStartCharPinLaw" (some 0) with
  accessFlags := 49
  interfaces := #[]
  cf := some (fileOf pool1 32 #[] #[{ accessFlags := 2, nameIndex := 5, descriptorIndex := 6, attributes := #[] }, { accessFlags := 10, nameIndex := 35, descriptorIndex := 30, attributes := #[] }, { accessFlags := 9, nameIndex := 39, descriptorIndex := 40, attributes := #[] }] 49 2 #[] #[])
  fields := #[]
  methods := #[k1m0, k1m1, k1m2]
  instanceTypes := #[]
  staticTypes := #[]
  resolved := Array.replicate 45 none
  statics := none }

def pool2 : Array CpInfo := pool [(2, .class_ 4), (1, u "java/lang/Object"), (0, u "<init>"), (0, u "()V"), (14, .class_ 23), (1, u "com/example/stylesheet_processor/stylesheetprocessor/model/Names"), (12, .integer 55295), (0, .integer 63744), (0, .integer 64975), (0, .integer 65008), (0, .integer 65533), (0, .integer 65536), (0, .integer 983039), (2, u "isNCNameStartChar"), (0, u "(I)Z")] 81

def k2m0 : Method := { name := "<init>", desc := "()V", sig := { parameters := [], returnType := none }, accessFlags := 2, code := none }
def k2c1 : Code := { maxStack := 2, maxLocals := 1, code := prog_38_method_4_code, exceptionTable := #[], attributes := #[] }
def k2m1 : Method := { name := "isNCNameStartChar", desc := "(I)Z", sig := { parameters := [.int], returnType := some .boolean }, accessFlags := 9, code := some k2c1 }
/-- com/example/stylesheet_processor/stylesheetprocessor/model/Names -/
def k2 : Class := { plain "com/example/stylesheet_processor/stylesheetprocessor/model/Names" (some 0) with
  accessFlags := 49
  interfaces := #[]
  cf := some (fileOf pool2 21 #[] #[{ accessFlags := 2, nameIndex := 5, descriptorIndex := 6, attributes := #[] }, { accessFlags := 9, nameIndex := 45, descriptorIndex := 46, attributes := #[] }] 49 2 #[] #[])
  fields := #[]
  methods := #[k2m0, k2m1]
  instanceTypes := #[]
  staticTypes := #[]
  resolved := Array.replicate 128 none
  statics := none }

def pool3 : Array CpInfo := pool [(1, u "java/lang/Cloneable"), (0, .class_ 1), (0, u "java/lang/Object"), (0, .class_ 3)] 3

/-- java/lang/Cloneable -/
def k3 : Class := { plain "java/lang/Cloneable" (some 0) with
  accessFlags := 1537
  interfaces := #[]
  cf := some (fileOf pool3 2 #[] #[] 1537 4 #[] #[])
  fields := #[]
  methods := #[]
  instanceTypes := #[]
  staticTypes := #[]
  resolved := Array.replicate 8 none
  statics := none }

def pool4 : Array CpInfo := pool [(1, u "java/io/Serializable"), (0, .class_ 1), (0, u "java/lang/Object"), (0, .class_ 3)] 3

/-- java/io/Serializable -/
def k4 : Class := { plain "java/io/Serializable" (some 0) with
  accessFlags := 1537
  interfaces := #[]
  cf := some (fileOf pool4 2 #[] #[] 1537 4 #[] #[])
  fields := #[]
  methods := #[]
  instanceTypes := #[]
  staticTypes := #[]
  resolved := Array.replicate 8 none
  statics := none }

/-- the primitive byte -/
def k5 : Class := { plain "byte" none with kind := .primitive 'B', accessFlags := 0x411 }
/-- [B -/
def k6 : Class := { plain "[B" (some 0) with kind := .array 5 .byte, interfaces := #[3, 4], accessFlags := 1041 }

/-- the primitive int -/
def k7 : Class := { plain "int" none with kind := .primitive 'I', accessFlags := 0x411 }
/-- [I -/
def k8 : Class := { plain "[I" (some 0) with kind := .array 7 .int, interfaces := #[3, 4], accessFlags := 1041 }

def heap : Heap := #[]
def classes : Array Class := #[k0, k1, k2, k3, k4, k5, k6, k7, k8]
def interned : List (Array UInt16 × Addr) := []
def slotsUsed : Nat := 0
def theMethod : MethodId := ⟨1, 2⟩
def args0 : Array Value := #[.int 5, .int 6, .int 7, .int 8]
def aboutOver (below : List Frame) : State where
  vm := { classes := classes, interned := interned.toArray }
  heap := heap
  slotsUsed := slotsUsed
  threads := #[{ frames := .invoking theMethod args0 :: below }]
def below0 : List Frame := [.native { method := ⟨0, 0⟩, args := #[] }]
def about1 : State := aboutOver below0
def p0 : Program := .bare "" "" ""
def e0 : Env := launch0.env 0 0 0
theorem w_frames : about1.frames = Frame.invoking theMethod args0 :: below0 := rfl
set_option maxRecDepth 65536 in
theorem w_args : argsFit about1.vm theMethod args0 = true := by decide +kernel
set_option maxRecDepth 65536 in
theorem w_heap : heapFits about1 = true := by decide +kernel
set_option maxRecDepth 65536 in
theorem w_runnable : about1.curStatus? = some .runnable := by decide +kernel
set_option maxRecDepth 65536 in
theorem w_alone : about1.alone = true := by decide +kernel
set_option maxRecDepth 65536 in
theorem w_named : about1.methodNamed? x = some theMethod := by decide +kernel
set_option maxRecDepth 65536 in
theorem w_hears : about1.hears theMethod below0 = true := by decide +kernel
set_option maxRecDepth 65536 in
theorem w_ripe : about1.ripe theMethod args0 below0 = true := by decide +kernel
theorem w_running : about1.status = .running := rfl
set_option maxRecDepth 65536 in
theorem w_room : about1.hasRoom e0.platform room_1 = true :=
  launch0.hasRoom_least _ room_1 (by decide +kernel) (by decide +kernel) (by decide +kernel) (by decide +kernel) (by decide +kernel) (by decide +kernel)
theorem allAtoms_all (ts : List Jvm.Cond) (a : Array Jvm.Value) (st : Jvm.State) : (allAtoms ts).before a st = ts.all (fun c => c.before a st) := by
  induction ts with
  | nil => rfl
  | cons c t ih =>
    show (Jvm.Cond.and c (allAtoms t)).before a st = _
    rw [Jvm.Cond.before_and, ih, List.all_cons]
def words1 : List Jvm.Cond := Jvm.Cond.code x code maxLocals ret :: tables_1
/-- a 'code' word, met by the world's own term for the bytes: nothing is compared byte by byte -/
theorem code_word {y : MethodName} {bytes : ByteArray} {mx : Nat} {rt : Option FieldType} {a : Array Value} {s : State} {m : MethodId} {meth : Method} {c : Code} (h1 : s.methodNamed? y = some m) (h2 : s.vm.method? m = some meth) (h3 : meth.code = some c) (h4 : c.code = bytes)
    (h5 : (c.maxLocals == mx && c.exceptionTable.isEmpty && decide (c.maxStack ≤ mostOperands) && decide (meth.sig.returnType = rt) && !meth.locks && decide (parseMethodDescriptor y.desc = some meth.sig)) = true) : (Jvm.Cond.code y bytes mx rt).before a s = true := by
  simp only [Bool.and_eq_true, beq_iff_eq, Bool.not_eq_true', decide_eq_true_eq] at h5
  obtain ⟨⟨⟨⟨⟨g1, g2⟩, g3⟩, g4⟩, g5⟩, g6⟩ := h5
  simp [Cond.before, Cond.holds, Cond.value, h1, h2, h3, h4, g1, g2, g3, g4, g5, g6]
def isCode : Jvm.Cond → Bool
  | .code _ _ _ _ => true
  | _ => false
theorem all_split {L : List Jvm.Cond} {P : Jvm.Cond → Bool} (h1 : L.all (fun c => isCode c || P c) = true) (h2 : ∀ c ∈ L.filter isCode, P c = true) : L.all P = true := by
  refine List.all_eq_true.mpr fun c hc => ?_
  have h := List.all_eq_true.mp h1 c hc
  rcases Bool.eq_false_or_eq_true (isCode c) with hi | hi
  · exact h2 c (List.mem_filter.mpr ⟨hc, hi⟩)
  · simpa [hi] using h
set_option maxRecDepth 65536 in
theorem w_c0 : (Jvm.Cond.code x code maxLocals ret).before args0 about1 = true := code_word (m := ⟨1, 2⟩) (meth := k1m2) (c := k1c2) (by decide +kernel) rfl rfl rfl (by decide +kernel)
set_option maxRecDepth 65536 in
theorem w_c1 : (Jvm.Cond.code ({ cls := "com/example/stylesheet_processor/stylesheetprocessor/model/Names", name := "isNCNameStartChar", desc := "(I)Z" } : Jvm.MethodName) prog_38_method_4_code (1 : Nat) (Option.some Jvm.ClassFile.FieldType.boolean)).before args0 about1 = true := code_word (m := ⟨2, 1⟩) (meth := k2m1) (c := k2c1) (by decide +kernel) rfl rfl rfl (by decide +kernel)
set_option maxRecDepth 65536 in
theorem w_c2 : (Jvm.Cond.code ({ cls := "com/example/stylesheet_processor/stylesheetprocessor/model/NamesIsNCNameStartCharPinLaw", name := "excluded", desc := "(I)Z" } : Jvm.MethodName) method_2_code (1 : Nat) (Option.some Jvm.ClassFile.FieldType.boolean)).before args0 about1 = true := code_word (m := ⟨1, 1⟩) (meth := k1m1) (c := k1c1) (by decide +kernel) rfl rfl rfl (by decide +kernel)
def codes1 : List Jvm.Cond := [Jvm.Cond.code x code maxLocals ret, Jvm.Cond.code ({ cls := "com/example/stylesheet_processor/stylesheetprocessor/model/Names", name := "isNCNameStartChar", desc := "(I)Z" } : Jvm.MethodName) prog_38_method_4_code (1 : Nat) (Option.some Jvm.ClassFile.FieldType.boolean), Jvm.Cond.code ({ cls := "com/example/stylesheet_processor/stylesheetprocessor/model/NamesIsNCNameStartCharPinLaw", name := "excluded", desc := "(I)Z" } : Jvm.MethodName) method_2_code (1 : Nat) (Option.some Jvm.ClassFile.FieldType.boolean)]
set_option maxRecDepth 65536 in
theorem codes_eq : words1.filter isCode = codes1 := rfl
theorem w_codes : ∀ c ∈ words1.filter isCode, c.before args0 about1 = true := by
  rw [codes_eq]
  intro c hc
  simp only [codes1, List.mem_cons, List.not_mem_nil, or_false] at hc
  rcases hc with rfl | rfl | rfl
  · exact w_c0
  · exact w_c1
  · exact w_c2
set_option maxRecDepth 65536 in
theorem w_t1 : (words1.take 24).all (fun c => isCode c || c.before args0 about1) = true := by decide +kernel
set_option maxRecDepth 65536 in
theorem w_t2 : (words1.drop 24).all (fun c => isCode c || c.before args0 about1) = true := by decide +kernel
theorem w_tables : (allAtoms (Jvm.Cond.code x code maxLocals ret :: tables_1)).before args0 about1 = true := by
  rw [allAtoms_all]
  show words1.all (fun c => c.before args0 about1) = true
  refine all_split ?_ w_codes
  rw [← List.take_append_drop 24 words1, List.all_append, w_t1, w_t2]
  rfl
set_option maxRecDepth 65536 in
theorem w_case : (Jvm.Cond.and given_1 narrow_1).before args0 about1 = true := by decide +kernel
theorem w_applies : (headSpec (Jvm.Cond.code x code maxLocals ret :: tables_1) room_1).applies x e0.platform about1 = true :=
  (Spec.applies_iff w_frames).mpr ⟨w_running, w_runnable, w_alone, w_named, w_hears, w_ripe, w_room, w_tables⟩
theorem atStart : AtStart classFile x code maxLocals ret World_1 tables_1 room_1 Calls_1 rest_1 Pre_1 launch0 p0 e0 about1 theMethod args0 below0 :=
  ⟨lists_1, trivial, launch0.admits_env _ _ _, launch0.least_env, fairChoices_fair.cas, fairChoices_fair.clock, w_frames, w_args, w_heap, w_applies, trivial, trivial, w_case⟩
end start1
theorem witness_1 : WitnessClaimed_1 := ⟨start1.p0, start1.e0, start1.about1, start1.theMethod, start1.args0, start1.below0, start1.atStart⟩
end Jvm.Pilot.@@N@@
