import JvmDerived
import JvmDerived.Pilot.@@N@@Statement
import JvmDerived.Pilot.@@N@@Code
set_option linter.unusedVariables false
set_option linter.unusedSimpArgs false
namespace Jvm.RoadKit
open Sem ClassFile Op Lib Jvm.Stand Jvm.Free Jvm.LawKit
section New
variable {p : Program} {l : Launch} {e : Env} {R : Room} {s : State} {m : MethodId} {args : Array Value} {below : List Frame} {meth : Method} {c : Code} {T : State} {locs : List Loc} {cells slots : Nat}
theorem retI (X : Stand p l e R s m args below meth c T locs cells slots) (hx : p.tables.exec = Jvm.exec) {pc : Nat} {Ls : Array Slot} {z : Int32} {rest : List Value} (hret : meth.sig.returnType = some .int) (hd : decode c.code pc = .ok (.ireturn, 1)) {fs : List Frame}
    (hl : ∀ (f : JFrame) (acts : List Action), f.method = m → f.locked = none → f.entered = [] → (doReturn e (T.setTop f) acts (some (.int z))).1 = T.setFrames fs) : Steps p.tables e below (T.setTop (mkF m pc Ls (.int z :: rest))) (T.setFrames fs) :=
  retOut X hx hret rfl (Or.inl ⟨rfl, Or.inl rfl, z, rfl⟩) hd hl
theorem retL (X : Stand p l e R s m args below meth c T locs cells slots) (hx : p.tables.exec = Jvm.exec) {pc : Nat} {Ls : Array Slot} {z : Int64} {rest : List Value} (hret : meth.sig.returnType = some .long) (hd : decode c.code pc = .ok (.lreturn, 1)) {fs : List Frame}
    (hl : ∀ (f : JFrame) (acts : List Action), f.method = m → f.locked = none → f.entered = [] → (doReturn e (T.setTop f) acts (some (.long z))).1 = T.setFrames fs) : Steps p.tables e below (T.setTop (mkF m pc Ls (.long z :: rest))) (T.setFrames fs) :=
  retOut X hx hret rfl (Or.inr (Or.inl ⟨rfl, rfl, z, rfl⟩)) hd hl
theorem retA (X : Stand p l e R s m args below meth c T locs cells slots) (hx : p.tables.exec = Jvm.exec) {pc : Nat} {Ls : Array Slot} {w : Value} {t : FieldType} {rest : List Value} (hret : meth.sig.returnType = some t) (ht : t.isReference = true) (hv : w.isRef = true) (hd : decode c.code pc = .ok (.areturn, 1)) {fs : List Frame}
    (hl : ∀ (f : JFrame) (acts : List Action), f.method = m → f.locked = none → f.entered = [] → (doReturn e (T.setTop f) acts (some w)).1 = T.setFrames fs) : Steps p.tables e below (T.setTop (mkF m pc Ls (w :: rest))) (T.setFrames fs) :=
  retOut X hx hret (by cases w <;> first | (simp [Value.isRef] at hv; done) | (cases t <;> first | rfl | (simp [FieldType.isReference] at ht; done))) (Or.inr (Or.inr (Or.inr (Or.inr ⟨rfl, ht, hv⟩)))) hd hl
/-- from here the run comes to an end of which P holds -/
def Go (tb : Tables) (e : Env) (below : List Frame) (P : State → Outcome → Prop) (A : State) : Prop := ∃ s₂ o, Steps tb e below A s₂ ∧ P s₂ o
theorem Go.via {tb : Tables} {e : Env} {below : List Frame} {P : State → Outcome → Prop} {A B : State} (st : ∀ t, Steps tb e below B t → Steps tb e below A t) (g : Go tb e below P B) : Go tb e below P A := by
  obtain ⟨s2, o, h, r⟩ := g
  exact ⟨s2, o, st _ h, r⟩
/-- what a contract says of the end -/
def PQ (s : State) (below : List Frame) (Q : Option Value → Heap → List Loc → Prop) (k n : Nat) (s₂ : State) (o : Outcome) : Prop := s₂.status = .running ∧ Ended s₂ below o ∧ ∃ v L, o = .returned v ∧ Q v s₂.heap L ∧ FrameEnd s o s₂ L k n
theorem Go.leave (X : Stand p l e R s m args below meth c T locs cells slots) (hlk : meth.locks = false) {v : Option Value} (hv : meth.sig.returnType = none → v = none) {A : State} {Q : Option Value → Heap → List Loc → Prop} {k n : Nat}
    (last : ∀ fs : List Frame, (∀ (f : JFrame) (acts : List Action), f.method = m → f.locked = none → f.entered = [] → (doReturn e (T.setTop f) acts v).1 = T.setFrames fs) → Steps p.tables e below A (T.setFrames fs)) (hk : cells ≤ k) (hn : slots ≤ n) (q : Q v T.heap locs) : Go p.tables e below (PQ s below Q k n) A := by
  obtain ⟨fs, hr, hrun, hended, hW, hsame⟩ := X.leave (v := v) hv hlk
  exact ⟨_, _, last fs hr, hrun, hended, _, _, rfl, q, ⟨_, rfl⟩, hW, hsame.mono hk hn⟩
end New
end Jvm.RoadKit
namespace Jvm.RoadKit
open Sem ClassFile Op Lib Jvm.Stand Jvm.Free Jvm.LawKit
section Ary
variable {p : Program} {l : Launch} {e : Env} {R : Room} {s : State} {m : MethodId} {args : Array Value} {below : List Frame} {meth : Method} {c : Code} {T : State} {locs : List Loc} {cells slots : Nat} {Z : State} {h h' : Heap} {a b : Addr} {ty : FieldType} {n : Nat} {f : Nat → Int32}
/-- the array at a: n places, the i-th holds f i -/
def Ary (Z : State) (h : Heap) (a : Addr) (ty : FieldType) (n : Nat) (f : Nat → Int32) : Prop := ∃ c : Cell, Arr Z h a c ty ∧ c.slots.size = n ∧ n < 2 ^ 31 ∧ ∀ i, i < n → c.slots[i]? = some (.int (f i)) ∧ fits ty (.int (f i)) = true
def arrUpd (f : Nat → Int32) (j : Nat) (x : Int32) (i : Nat) : Int32 := if i = j then x else f i
theorem Ary.lt (F : Ary Z h a ty n f) : a < h.size := by obtain ⟨c, A, -⟩ := F; exact A.lt
theorem Ary.ext (F : Ary Z h a ty n f) (E : Ext h h') : Ary Z h' a ty n f := by obtain ⟨c, A, r⟩ := F; exact ⟨c, A.ext E, r⟩
theorem Ary.other {sl : Nat} {v : Value} (F : Ary Z h b ty n f) (W : Wr h h' a sl v) (q : b ≠ a) : Ary Z h' b ty n f := by obtain ⟨c, A, r⟩ := F; exact ⟨c, A.other W q, r⟩
theorem Ary.keep {ws : List Addr} (F : Ary Z h a ty n f) (K : Keep h h' ws) (q : a ∉ ws) : Ary Z h' a ty n f := by obtain ⟨c, A, r⟩ := F; exact ⟨c, ⟨K.2.1 a c A.1 q, A.2⟩, r⟩
theorem Ary.new {k : ClassId} {z : Int32} (A : Arr Z h a (newA k ty z) ty) (q : ¬ z < 0) (hd : defaultValue ty = .int 0) (hf : fits ty (.int 0) = true) : Ary Z h a ty z.toNatClampNeg (fun _ => 0) :=
  ⟨_, A, sz_new _ _ _, (back32 q).2, fun i hi => ⟨by simp [newA, hd, Array.getElem?_replicate, hi], hf⟩⟩
theorem Ary.set {j : Nat} {x : Int32} (F : Ary Z h a ty n f) (W : Wr h h' a j (.int x)) (hv : fits ty (.int x) = true) : Ary Z h' a ty n (arrUpd f j x) := by
  obtain ⟨c, A, S, B, H⟩ := F
  obtain ⟨cell, w1, w2, w3, w4⟩ := id W
  cases w1.symm.trans A.1
  refine ⟨_, A.same W, (sz_set _ _ _).trans S, B, fun i hi => ?_⟩
  have hi' : i < c.slots.size := by rw [S]; exact hi
  unfold arrUpd
  by_cases hj : i = j
  · subst hj
    rw [if_pos rfl]
    exact ⟨by simp [Cell.setSlot, Array.getElem?_setIfInBounds, hi'], hv⟩
  · rw [if_neg hj]
    refine ⟨?_, (H i hi).2⟩
    rw [← (H i hi).1]
    simp [Cell.setSlot, Array.getElem?_setIfInBounds, Ne.symm hj]
theorem aputI {n0 : Nat} {j x : Int32} {g : JFrame} {rest : List Value} (X : Stand p l e R s m args below meth c T locs cells slots) (hx : p.tables.exec = Jvm.exec) (hZ : Z.Warmed39 s.vm) (eT : T.heap = h) (A : Ary Z h a .int n f) (N : Fr n0 locs) (ge : n0 ≤ a) (hj : ¬ j < 0) (hn : j.toNatClampNeg < n)
    (hg : g.method = m) (hs : g.stack = .int x :: .int j :: .ref a :: rest) (hd : decode c.code g.pc = .ok (.iastore, 1)) :
    ∃ T' h' L', Stand p l e R s m args below meth c T' L' cells slots ∧ T'.heap = h' ∧ Fr n0 L' ∧ Wr h h' a j.toNatClampNeg (.int x) ∧ Ary Z h' a .int n (arrUpd f j.toNatClampNeg x) ∧ ∀ target, Steps p.tables e below (T'.setTop { g with pc := g.pc + 1, stack := rest }) target → Steps p.tables e below (T.setTop g) target := by
  obtain ⟨cl, Ar, S, B, H⟩ := id A
  obtain ⟨T', h', X', e', W, st⟩ := stI X hx hZ eT Ar (j := j) (x := x) (by rw [S]; intro q; rcases q with q | q; exact hj q; omega) hg hs hd
  exact ⟨T', h', _, X', e', Fr.snoc X' N ge, W, A.set W rfl, st⟩
theorem aputB {n0 : Nat} {j x : Int32} {g : JFrame} {rest : List Value} (X : Stand p l e R s m args below meth c T locs cells slots) (hx : p.tables.exec = Jvm.exec) (hZ : Z.Warmed39 s.vm) (eT : T.heap = h) (A : Ary Z h a .byte n f) (N : Fr n0 locs) (ge : n0 ≤ a) (hj : ¬ j < 0) (hn : j.toNatClampNeg < n)
    (hg : g.method = m) (hs : g.stack = .int x :: .int j :: .ref a :: rest) (hd : decode c.code g.pc = .ok (.bastore, 1)) :
    ∃ T' h' L', Stand p l e R s m args below meth c T' L' cells slots ∧ T'.heap = h' ∧ Fr n0 L' ∧ Wr h h' a j.toNatClampNeg (.int x.toInt8.toInt32) ∧ Ary Z h' a .byte n (arrUpd f j.toNatClampNeg x.toInt8.toInt32) ∧ ∀ target, Steps p.tables e below (T'.setTop { g with pc := g.pc + 1, stack := rest }) target → Steps p.tables e below (T.setTop g) target := by
  obtain ⟨cl, Ar, S, B, H⟩ := id A
  obtain ⟨T', h', X', e', W, st⟩ := stB X hx hZ eT Ar (j := j) (x := x) (by rw [S]; intro q; rcases q with q | q; exact hj q; omega) hg hs hd
  exact ⟨T', h', _, X', e', Fr.snoc X' N ge, W, A.set W (fits_nar_byte x), st⟩
theorem agetI {j : Int32} {g : JFrame} {rest : List Value} (X : Stand p l e R s m args below meth c T locs cells slots) (hx : p.tables.exec = Jvm.exec) (hZ : Z.Warmed39 s.vm) (eT : T.heap = h) (A : Ary Z h a .int n f) (hj : ¬ j < 0) (hn : j.toNatClampNeg < n)
    (hg : g.method = m) (hs : g.stack = .int j :: .ref a :: rest) (hd : decode c.code g.pc = .ok (.iaload, 1)) (target : State) (k : Steps p.tables e below (T.setTop { g with pc := g.pc + 1, stack := .int (f j.toNatClampNeg) :: rest }) target) : Steps p.tables e below (T.setTop g) target := by
  obtain ⟨cl, Ar, S, B, H⟩ := A
  exact X.iaload hx (j := j) (v := .int (f j.toNatClampNeg)) (by rw [eT]; exact Ar.1) (State.isArrayOf_alike hZ.alike Ar.2.1) Ar.2.2 (by rw [S]; intro q; rcases q with q | q; exact hj q; omega) (H _ hn).1 hg hs hd target k
theorem agetB {j : Int32} {g : JFrame} {rest : List Value} (X : Stand p l e R s m args below meth c T locs cells slots) (hx : p.tables.exec = Jvm.exec) (hZ : Z.Warmed39 s.vm) (eT : T.heap = h) (A : Ary Z h a .byte n f) (hj : ¬ j < 0) (hn : j.toNatClampNeg < n)
    (hg : g.method = m) (hs : g.stack = .int j :: .ref a :: rest) (hd : decode c.code g.pc = .ok (.baload, 1)) (target : State) (k : Steps p.tables e below (T.setTop { g with pc := g.pc + 1, stack := .int (f j.toNatClampNeg) :: rest }) target) : Steps p.tables e below (T.setTop g) target := by
  obtain ⟨cl, Ar, S, B, H⟩ := A
  exact X.baloadBytes hx (j := j) (v := .int (f j.toNatClampNeg)) (by rw [eT]; exact Ar.1) (State.isArrayOf_alike hZ.alike Ar.2.1) Ar.2.2 (by rw [S]; intro q; rcases q with q | q; exact hj q; omega) (H _ hn).1 hg hs hd target k
theorem alen {g : JFrame} {rest : List Value} (X : Stand p l e R s m args below meth c T locs cells slots) (hx : p.tables.exec = Jvm.exec) (hZ : Z.Warmed39 s.vm) (eT : T.heap = h) (A : Ary Z h a ty n f)
    (hg : g.method = m) (hs : g.stack = .ref a :: rest) (hd : decode c.code g.pc = .ok (.arraylength, 1)) (target : State) (k : Steps p.tables e below (T.setTop { g with pc := g.pc + 1, stack := .int n.toInt32 :: rest }) target) : Steps p.tables e below (T.setTop g) target := by
  obtain ⟨cl, Ar, S, B, H⟩ := A
  exact X.arraylength hx (by rw [eT]; exact Ar.1) (State.isArrayOf_alike hZ.alike Ar.2.1) hg hs hd target (by rw [S]; exact k)
end Ary
end Jvm.RoadKit
namespace Jvm.RoadKit
open Sem ClassFile Op Lib Jvm.Stand Jvm.Free Jvm.LawKit
section Ary2
variable {p : Program} {l : Launch} {e : Env} {R : Room} {s : State} {m : MethodId} {args : Array Value} {below : List Frame} {meth : Method} {c : Code} {T : State} {locs : List Loc} {cells slots : Nat} {Z : State} {h h' : Heap} {a b : Addr} {ty : FieldType} {n k : Nat} {f : Nat → Int32}
theorem nat32 {n : Nat} (h : n < 2 ^ 31) : n.toInt32.toNatClampNeg = n ∧ ¬ n.toInt32 < 0 := by
  have q := len_toInt h
  refine ⟨?_, ?_⟩
  · show n.toInt32.toInt.toNat = n
    rw [q]; rfl
  · rw [Int32.lt_iff_toInt_lt, q]
    have : (0 : Int32).toInt = 0 := rfl
    omega
theorem getD_range (f : Nat → Int32) (n i : Nat) : ((List.range n).map fun j => Value.int (f j)).getD i (.int 0) = if i < n then .int (f i) else .int 0 := by
  rw [List.getD_eq_getElem?_getD, List.getElem?_map]
  by_cases hi : i < n
  · rw [List.getElem?_range hi, if_pos hi]; rfl
  · rw [List.getElem?_eq_none (by simpa using hi), if_neg hi]; rfl
theorem Ary.arv (A : Ary Z h a ty n f) : ∃ k, Arv Z h a k ty n.toInt32 ((List.range n).map fun j => Value.int (f j)) (.int 0) := by
  obtain ⟨c, Ar, S, B, H⟩ := A
  have q := nat32 B
  refine ⟨c.cls, c, Ar, rfl, by rw [q.1]; exact S, q.2, fun i hi => ?_, fun i hi => ?_⟩
  · rw [getD_range, if_pos (S ▸ hi)]; exact (H i (S ▸ hi)).1
  · rw [getD_range, if_pos (S ▸ hi)]; exact (H i (S ▸ hi)).2
theorem Arv.ary {kc : ClassId} {z : Int32} {vs : List Value} {dv : Value} {g : Nat → Int32} (V : Arv Z h a kc ty z vs dv) (hz : z.toNatClampNeg = n) (hg : ∀ i, i < n → vs.getD i dv = .int (g i)) : Ary Z h a ty n g := by
  obtain ⟨c, Ar, -, S, q, H, G⟩ := V
  rw [hz] at S
  refine ⟨c, Ar, S, by rw [← hz]; exact (back32 q).2, fun i hi => ?_⟩
  have h1 := H i (S ▸ hi)
  have h2 := G i (S ▸ hi)
  rw [hg i hi] at h1 h2
  exact ⟨h1, h2⟩
theorem acopy {n0 W : Nat} {q : Int32} {g : JFrame} {rest : List Value} {a0 : Array Value} {own : String} {index : Nat} (X : Stand p l e R s m args below meth c T locs cells slots) (hx : p.tables.exec = Jvm.exec) (hZ : Z.Warmed39 s.vm) (hown : s.vm.findClass own = some m.cls)
    (w1 : (Cond.methodLink own index Jvm.Stand.acN).before a0 Z = true) (w2 : (Cond.native Jvm.Stand.acN).before a0 Z = true) (w3 : (Cond.static Jvm.Stand.acN).before a0 Z = true) (w4 : (Cond.initialized "java/lang/System").before a0 Z = true) (eT : T.heap = h)
    (A : Ary Z h a ty n f) (B : Ary Z h b ty k (fun _ => 0)) (hty : refKind ty = false) (hq : ¬ q < 0) (hn : q.toNatClampNeg ≤ n) (hk : q.toNatClampNeg ≤ k) (N : Fr n0 locs) (ge : n0 ≤ b)
    (hg : g.method = m) (hsize : g.locals.size = c.maxLocals) (hs : g.stack = .int q :: .int 0 :: .ref b :: .int 0 :: .ref a :: rest) (hd : decode c.code g.pc = .ok (.invokestatic index, 3))
    (hf : 1 ≤ R.frames) (hW : 2 * g.monitorRoom + (rest.map fun v => v.category).sum ≤ W) (hlo : W + (nativeFrameWords "java/lang/System" "arraycopy" 5 + 11) ≤ R.locals) :
    ∃ T' h' L, Stand p l e R s m args below meth c T' L cells slots ∧ T'.heap = h' ∧ Fr n0 L ∧ Keep h h' [b] ∧ Ary Z h' b ty k (fun i => if i < q.toNatClampNeg then f i else 0) ∧
      ∀ target, Steps p.tables e below (T'.setTop { g with pc := g.pc + 3, stack := rest }) target → Steps p.tables e below (T.setTop g) target := by
  obtain ⟨ka, A'⟩ := A.arv
  obtain ⟨kb, B'⟩ := B.arv
  have na : n < 2 ^ 31 := by obtain ⟨_, _, _, u, _⟩ := A; exact u
  have nk : k < 2 ^ 31 := by obtain ⟨_, _, _, u, _⟩ := B; exact u
  have z0 : (0 : Int32).toNatClampNeg = 0 := rfl
  obtain ⟨T', h', L, X', e', N', K, V, st⟩ := cpA X hx hZ hown w1 w2 w3 w4 eT A' B' (Or.inl ⟨rfl, hty⟩) (sp := 0) (dp := 0) (nn := q) (by decide) (by decide) hq (by rw [z0, (nat32 na).1]; omega) (by rw [z0, (nat32 nk).1]; omega) rfl (by rw [z0, List.length_map, List.length_range]; omega) N ge hg hsize hs hd hf hW hlo
  refine ⟨T', h', L, X', e', N', K, V.ary (nat32 nk).1 fun i hi => ?_, st⟩
  rw [z0, List.take_zero, List.nil_append, Nat.zero_add, List.getD_eq_getElem?_getD]
  by_cases hi' : i < q.toNatClampNeg
  · rw [if_pos hi', List.getElem?_append_left (by rw [List.length_map, List.length_range]; exact hi'), List.getElem?_map, List.getElem?_range hi']
    show (((List.range n).map fun j => Value.int (f j)).getD (0 + i) (.int 0)) = _
    rw [Nat.zero_add, getD_range, if_pos (by omega)]
  · rw [if_neg hi', List.getElem?_append_right (by rw [List.length_map, List.length_range]; omega), List.length_map, List.length_range, List.getElem?_drop, List.getElem?_map, List.getElem?_range (by omega)]
    rfl
end Ary2
end Jvm.RoadKit
namespace Jvm.Pilot.@@N@@
open Jvm Jvm.ClassFile Sem Op Lib Jvm.Free Jvm.Stand Jvm.LawKit Jvm.RoadKit Bundle Jvm.Pilot.@@N@@.Jvm.D

theorem pd0 : parseMethodDescriptor "(II)I" = some ⟨[.int, .int], some .int⟩ := by decide +kernel
theorem pd1 : parseMethodDescriptor "(I)I" = some ⟨[.int], some .int⟩ := by decide +kernel
theorem pd2 : parseMethodDescriptor "([II)[I" = some ⟨[(.array .int), .int], some (.array .int)⟩ := by decide +kernel
theorem pd3 : parseMethodDescriptor "(IIIII)I" = some ⟨[.int, .int, .int, .int, .int], some .int⟩ := by decide +kernel
theorem pd4 : parseMethodDescriptor "(I)V" = some ⟨[.int], none⟩ := by decide +kernel
theorem pd5 : parseMethodDescriptor "(II)V" = some ⟨[.int, .int], none⟩ := by decide +kernel
theorem pd6 : parseMethodDescriptor "(III)I" = some ⟨[.int, .int, .int], some .int⟩ := by decide +kernel
theorem pd7 : parseMethodDescriptor "()I" = some ⟨[], some .int⟩ := by decide +kernel
/-- the frame at a -/
def FP (Z : State) (h : Heap) (a la : Addr) (lf : Nat → Int32) (sa : Addr) (sn : Nat) (sf : Nat → Int32) (ss sw : Int32) : Prop := Exa Z h a "com/example/bytewright/bytewright/classfile/Frame" ∧ (Fld Z h a "com/example/bytewright/bytewright/classfile/Frame" "locals" "[I" (.ref la) ∧ Fld Z h a "com/example/bytewright/bytewright/classfile/Frame" "stack" "[I" (.ref sa) ∧ Fld Z h a "com/example/bytewright/bytewright/classfile/Frame" "stackSize" "I" (.int ss) ∧ Fld Z h a "com/example/bytewright/bytewright/classfile/Frame" "stackWords" "I" (.int sw)) ∧ Ary Z h la .int 2 lf ∧ Ary Z h sa .int sn sf ∧ a ≠ la ∧ a ≠ sa ∧ la ≠ sa
theorem FP.put_stackSize {Z : State} {a0 : Array Value} (hw : ∀ d ∈ tables_1, d.before a0 Z = true) {h h1 : Heap} {a : Addr} {la sa : Addr} {lf sf : Nat → Int32} {sn : Nat} {ss sw : Int32} {q : Int32} (H : FP Z h a la lf sa sn sf ss sw) (W : Wr h h1 a (Jvm.RoadKit.slotOf Z "com/example/bytewright/bytewright/classfile/Frame" "stackSize" "I") (.int q)) : FP Z h1 a la lf sa sn sf q sw :=
  ⟨H.1.wr W, ⟨H.2.1.1.other W (Or.inr (slot_ne (Or.inl (hw _ (List.mem_of_getElem? (i := 15) rfl))) (Or.inl (hw _ (List.mem_of_getElem? (i := 35) rfl))) (by decide) (t := (.array .int)) (t' := .int) (by decide) (by decide))), H.2.1.2.1.other W (Or.inr (slot_ne (Or.inl (hw _ (List.mem_of_getElem? (i := 19) rfl))) (Or.inl (hw _ (List.mem_of_getElem? (i := 35) rfl))) (by decide) (t := (.array .int)) (t' := .int) (by decide) (by decide))), H.2.1.2.2.1.same W, H.2.1.2.2.2.other W (Or.inr (slot_ne (Or.inl (hw _ (List.mem_of_getElem? (i := 52) rfl))) (Or.inl (hw _ (List.mem_of_getElem? (i := 35) rfl))) (by decide) (t := .int) (t' := .int) (by decide) (by decide)))⟩, H.2.2.1.other W (Ne.symm H.2.2.2.2.1), H.2.2.2.1.other W (Ne.symm H.2.2.2.2.2.1), H.2.2.2.2⟩
theorem FP.put_stackWords {Z : State} {a0 : Array Value} (hw : ∀ d ∈ tables_1, d.before a0 Z = true) {h h1 : Heap} {a : Addr} {la sa : Addr} {lf sf : Nat → Int32} {sn : Nat} {ss sw : Int32} {q : Int32} (H : FP Z h a la lf sa sn sf ss sw) (W : Wr h h1 a (Jvm.RoadKit.slotOf Z "com/example/bytewright/bytewright/classfile/Frame" "stackWords" "I") (.int q)) : FP Z h1 a la lf sa sn sf ss q :=
  ⟨H.1.wr W, ⟨H.2.1.1.other W (Or.inr (slot_ne (Or.inl (hw _ (List.mem_of_getElem? (i := 15) rfl))) (Or.inl (hw _ (List.mem_of_getElem? (i := 52) rfl))) (by decide) (t := (.array .int)) (t' := .int) (by decide) (by decide))), H.2.1.2.1.other W (Or.inr (slot_ne (Or.inl (hw _ (List.mem_of_getElem? (i := 19) rfl))) (Or.inl (hw _ (List.mem_of_getElem? (i := 52) rfl))) (by decide) (t := (.array .int)) (t' := .int) (by decide) (by decide))), H.2.1.2.2.1.other W (Or.inr (slot_ne (Or.inl (hw _ (List.mem_of_getElem? (i := 35) rfl))) (Or.inl (hw _ (List.mem_of_getElem? (i := 52) rfl))) (by decide) (t := .int) (t' := .int) (by decide) (by decide))), H.2.1.2.2.2.same W⟩, H.2.2.1.other W (Ne.symm H.2.2.2.2.1), H.2.2.2.1.other W (Ne.symm H.2.2.2.2.2.1), H.2.2.2.2⟩
theorem FP.storeL {Z : State} {h h1 : Heap} {a : Addr} {la sa : Addr} {lf sf : Nat → Int32} {sn : Nat} {ss sw : Int32} {g : Nat → Int32} {j : Nat} {v : Value} (H : FP Z h a la lf sa sn sf ss sw) (W : Wr h h1 la j v) (A : Ary Z h1 la .int 2 g) : FP Z h1 a la g sa sn sf ss sw :=
  ⟨H.1.wr W, ⟨H.2.1.1.other W (Or.inl H.2.2.2.2.1), H.2.1.2.1.other W (Or.inl H.2.2.2.2.1), H.2.1.2.2.1.other W (Or.inl H.2.2.2.2.1), H.2.1.2.2.2.other W (Or.inl H.2.2.2.2.1)⟩, A, H.2.2.2.1.other W (Ne.symm H.2.2.2.2.2.2), H.2.2.2.2⟩
theorem FP.storeS {Z : State} {h h1 : Heap} {a : Addr} {la sa : Addr} {lf sf : Nat → Int32} {sn : Nat} {ss sw : Int32} {g : Nat → Int32} {j : Nat} {v : Value} (H : FP Z h a la lf sa sn sf ss sw) (W : Wr h h1 sa j v) (A : Ary Z h1 sa .int sn g) : FP Z h1 a la lf sa sn g ss sw :=
  ⟨H.1.wr W, ⟨H.2.1.1.other W (Or.inl H.2.2.2.2.2.1), H.2.1.2.1.other W (Or.inl H.2.2.2.2.2.1), H.2.1.2.2.1.other W (Or.inl H.2.2.2.2.2.1), H.2.1.2.2.2.other W (Or.inl H.2.2.2.2.2.1)⟩, H.2.2.1.other W H.2.2.2.2.2.2, A, H.2.2.2.2⟩
theorem FP.at {Z : State} {h h1 : Heap} {a : Addr} {la sa : Addr} {lf sf : Nat → Int32} {sn : Nat} {ss sw : Int32} (e : h1 = h) (H : FP Z h a la lf sa sn sf ss sw) : FP Z h1 a la lf sa sn sf ss sw := by subst e; exact H
theorem FP.ge {Z : State} {h : Heap} {a : Addr} {la sa : Addr} {lf sf : Nat → Int32} {sn : Nat} {ss sw : Int32} {n0 : Nat} (H : FP Z h a la lf sa sn sf ss sw) (g : n0 ≤ a) : n0 ≤ h.size := Nat.le_of_lt (Nat.lt_of_le_of_lt g H.1.lt)
theorem own_nat {x : Int32} (h0 : 0 ≤ x.toInt) : ¬ x < 0 ∧ (x.toNatClampNeg : Int) = x.toInt := by
  have e0 : (0 : Int32).toInt = 0 := rfl
  refine ⟨by rw [Int32.lt_iff_toInt_lt, e0]; omega, ?_⟩
  show ((x.toInt.toNat : Nat) : Int) = x.toInt
  omega
theorem own_congr {Z : State} {h : Heap} {a : Addr} {ty : FieldType} {n : Nat} {f g : Nat → Int32} (A : Ary Z h a ty n f) (q : ∀ i, i < n → f i = g i) : Ary Z h a ty n g := by
  obtain ⟨c, Ar, S, B, H⟩ := A
  exact ⟨c, Ar, S, B, fun i hi => by rw [← q i hi]; exact H i hi⟩
theorem d1_0 : decode method_2_code 0 = .ok (.iload_n 0, 1) := by decide +kernel
theorem d1_1 : decode method_2_code 1 = .ok (.iconst 3, 1) := by decide +kernel
theorem d1_2 : decode method_2_code 2 = .ok (.iand, 1) := by decide +kernel
theorem d1_3 : decode method_2_code 3 = .ok (.istore 5, 2) := by decide +kernel
theorem d1_5 : decode method_2_code 5 = .ok (.iload 5, 2) := by decide +kernel
theorem d1_7 : decode method_2_code 7 = .ok (.ifCond .ne 5, 3) := by decide +kernel
theorem d1_10 : decode method_2_code 10 = .ok (.iload_n 1, 1) := by decide +kernel
theorem d1_11 : decode method_2_code 11 = .ok (.ireturn, 1) := by decide +kernel
theorem d1_12 : decode method_2_code 12 = .ok (.iload 5, 2) := by decide +kernel
theorem d1_14 : decode method_2_code 14 = .ok (.iconst 1, 1) := by decide +kernel
theorem d1_15 : decode method_2_code 15 = .ok (.if_icmp .ne 5, 3) := by decide +kernel
theorem d1_18 : decode method_2_code 18 = .ok (.iload_n 2, 1) := by decide +kernel
theorem d1_19 : decode method_2_code 19 = .ok (.ireturn, 1) := by decide +kernel
theorem d1_20 : decode method_2_code 20 = .ok (.iload 5, 2) := by decide +kernel
theorem d1_22 : decode method_2_code 22 = .ok (.iconst 2, 1) := by decide +kernel
theorem d1_23 : decode method_2_code 23 = .ok (.if_icmp .ne 5, 3) := by decide +kernel
theorem d1_26 : decode method_2_code 26 = .ok (.iload_n 3, 1) := by decide +kernel
theorem d1_27 : decode method_2_code 27 = .ok (.ireturn, 1) := by decide +kernel
theorem d1_28 : decode method_2_code 28 = .ok (.iload 4, 2) := by decide +kernel
theorem d1_30 : decode method_2_code 30 = .ok (.ireturn, 1) := by decide +kernel
theorem pn_1 : plainName "com/example/bytewright/bytewright/classfile/FrameReplacePinLaw" = true := by first | (simp [plainName, overriddenIn]; done) | decide +kernel
theorem ef_1 (m : MethodId) (x0 : Int32) (x1 : Int32) (x2 : Int32) (x3 : Int32) (x4 : Int32) : entryFrame m #[(.int x0), (.int x1), (.int x2), (.int x3), (.int x4)] 6 = mkF m 0 #[.val (.int x0), .val (.int x1), .val (.int x2), .val (.int x3), .val (.int x4), .unset] [] := by first | (simp [entryFrame, mkF, argsToLocals, Value.category]; done) | rfl
def F1_28 (k : Int32) (x : Int32) (y : Int32) (u : Int32) (v : Int32) : Int32 := v
def F1_26 (k : Int32) (x : Int32) (y : Int32) (u : Int32) (v : Int32) : Int32 := u
def F1_20 (k : Int32) (x : Int32) (y : Int32) (u : Int32) (v : Int32) : Int32 := if (k &&& (3 : Int32)) = (2 : Int32) then F1_26 k x y u v else F1_28 k x y u v
def F1_18 (k : Int32) (x : Int32) (y : Int32) (u : Int32) (v : Int32) : Int32 := y
def F1_12 (k : Int32) (x : Int32) (y : Int32) (u : Int32) (v : Int32) : Int32 := if (k &&& (3 : Int32)) = (1 : Int32) then F1_18 k x y u v else F1_20 k x y u v
def F1_10 (k : Int32) (x : Int32) (y : Int32) (u : Int32) (v : Int32) : Int32 := x
def F1_0 (k : Int32) (x : Int32) (y : Int32) (u : Int32) (v : Int32) : Int32 := if (k &&& (3 : Int32)) = (0 : Int32) then F1_10 k x y u v else F1_12 k x y u v
def Q1 (Z : State) (k : Int32) (x : Int32) (y : Int32) (u : Int32) (v : Int32) (h0 : Heap) (n0 : Nat) (v_ : Option Value) (h_ : Heap) (L_ : List Loc) : Prop := v_ = some (.int (F1_0 k x y u v)) ∧ Fr n0 L_ ∧ h_ = h0
set_option maxRecDepth 65536 in
set_option maxHeartbeats 40000000 in
theorem rm1 (l : Launch) (Z : State) (a0 : Array Value) (hw : ∀ d ∈ tables_1, d.before a0 Z = true) (ws : List Jvm.Cond) (k : Int32) (x : Int32) (y : Int32) (u : Int32) (v : Int32) (h0 : Heap) (n0 : Nat) (Z0 : n0 ≤ h0.size) :
    MetFree l (⟨"com/example/bytewright/bytewright/classfile/FrameReplacePinLaw", "pick", "(IIIII)I"⟩ : MethodName) (head1 (Jvm.Cond.code (⟨"com/example/bytewright/bytewright/classfile/FrameReplacePinLaw", "pick", "(IIIII)I"⟩ : MethodName) method_2_code 6 (some .int) :: ws) ({ frames := 0, cells := 0, slots := 0, locals := 0 } : Room)) (fun a_ U_ => a_ = #[(.int k), (.int x), (.int y), (.int u), (.int v)] ∧ Z.Warmed39 U_.vm ∧ U_.heap = h0) (fun _ _ _ _ _ => True) (fun _ U_ o_ V_ => ∃ v_ L_, o_ = .returned v_ ∧ Q1 Z k x y u v h0 n0 v_ V_.heap L_ ∧ FrameEnd U_ o_ V_ L_ ({ frames := 0, cells := 0, slots := 0, locals := 0 } : Room).cells ({ frames := 0, cells := 0, slots := 0, locals := 0 } : Room).slots) := by
  refine MetFree.of_bodySF (plainFor_of_name pn_1) hisR ?_
  intro p e s m args below meth c s₁ Bd hml0 hP hK
  obtain ⟨rfl, hZ, hh⟩ := hP
  have hx := Bd.exec
  have hby := Bd.bytes
  have hml : c.maxLocals = 6 := hml0
  have hown : s.vm.findClass "com/example/bytewright/bytewright/classfile/FrameReplacePinLaw" = some m.cls := findClass_of_methodNamed Bd.named
  have hnm := (name_of_methodNamed Bd.named Bd.method).1
  have hlk : meth.locks = false := BodyLoose.notSynchronized Bd
  have hrt := Bd.returns
  have X0 : Stand p l e ({ frames := 0, cells := 0, slots := 0, locals := 0 } : Room) s m #[(.int k), (.int x), (.int y), (.int u), (.int v)] below meth c s₁ [] 0 0 := Stand.of_body Bd
  have e0 : s₁.heap = h0 := by rw [← hh, Bd.state]; rfl
  have N0 := Fr.nil n0
  show Go p.tables e below (PQ s below (Q1 Z k x y u v h0 n0) 0 0) _
  have t28 : Go p.tables e below (PQ s below (fun v_ h_ L_ => v_ = some (.int (F1_28 k x y u v)) ∧ Fr n0 L_ ∧ h_ = h0) 0 0) (s₁.setTop (mkF m 28 #[.val (.int k), .val (.int x), .val (.int y), .val (.int u), .val (.int v), .val (.int (k &&& (3 : Int32)))] [])) := by
    refine Go.via (B := s₁.setTop (mkF m 30 #[.val (.int k), .val (.int x), .val (.int y), .val (.int u), .val (.int v), .val (.int (k &&& (3 : Int32)))] [(.int v)])) (fun t_ k_ => ?_) ?_
    · show Steps p.tables e below (s₁.setTop (mkF m 28 #[.val (.int k), .val (.int x), .val (.int y), .val (.int u), .val (.int v), .val (.int (k &&& (3 : Int32)))] [])) t_
      refine XS.iload X0.here hx rfl (hb hby d1_28) rfl ?_
      show Steps p.tables e below (s₁.setTop (mkF m 30 #[.val (.int k), .val (.int x), .val (.int y), .val (.int u), .val (.int v), .val (.int (k &&& (3 : Int32)))] [(.int v)])) t_
      exact k_
    exact Go.leave X0 hlk (v := (some (.int v))) (fun h => by rw [hrt] at h; cases h) (fun fs hr => retI X0 hx hrt (hb hby d1_30) hr) (by decide) (by decide) (⟨rfl, N0, e0⟩)
  have t26 : Go p.tables e below (PQ s below (fun v_ h_ L_ => v_ = some (.int (F1_26 k x y u v)) ∧ Fr n0 L_ ∧ h_ = h0) 0 0) (s₁.setTop (mkF m 26 #[.val (.int k), .val (.int x), .val (.int y), .val (.int u), .val (.int v), .val (.int (k &&& (3 : Int32)))] [])) := by
    refine Go.via (B := s₁.setTop (mkF m 27 #[.val (.int k), .val (.int x), .val (.int y), .val (.int u), .val (.int v), .val (.int (k &&& (3 : Int32)))] [(.int u)])) (fun t_ k_ => ?_) ?_
    · show Steps p.tables e below (s₁.setTop (mkF m 26 #[.val (.int k), .val (.int x), .val (.int y), .val (.int u), .val (.int v), .val (.int (k &&& (3 : Int32)))] [])) t_
      refine XS.iloadN X0.here hx rfl (hb hby d1_26) rfl ?_
      show Steps p.tables e below (s₁.setTop (mkF m 27 #[.val (.int k), .val (.int x), .val (.int y), .val (.int u), .val (.int v), .val (.int (k &&& (3 : Int32)))] [(.int u)])) t_
      exact k_
    exact Go.leave X0 hlk (v := (some (.int u))) (fun h => by rw [hrt] at h; cases h) (fun fs hr => retI X0 hx hrt (hb hby d1_27) hr) (by decide) (by decide) (⟨rfl, N0, e0⟩)
  have t20 : Go p.tables e below (PQ s below (fun v_ h_ L_ => v_ = some (.int (F1_20 k x y u v)) ∧ Fr n0 L_ ∧ h_ = h0) 0 0) (s₁.setTop (mkF m 20 #[.val (.int k), .val (.int x), .val (.int y), .val (.int u), .val (.int v), .val (.int (k &&& (3 : Int32)))] [])) := by
    refine Go.via (B := s₁.setTop (mkF m 23 #[.val (.int k), .val (.int x), .val (.int y), .val (.int u), .val (.int v), .val (.int (k &&& (3 : Int32)))] [(.int (2 : Int32)), (.int (k &&& (3 : Int32)))])) (fun t_ k_ => ?_) ?_
    · show Steps p.tables e below (s₁.setTop (mkF m 20 #[.val (.int k), .val (.int x), .val (.int y), .val (.int u), .val (.int v), .val (.int (k &&& (3 : Int32)))] [])) t_
      refine XS.iload X0.here hx rfl (hb hby d1_20) rfl ?_
      show Steps p.tables e below (s₁.setTop (mkF m 22 #[.val (.int k), .val (.int x), .val (.int y), .val (.int u), .val (.int v), .val (.int (k &&& (3 : Int32)))] [(.int (k &&& (3 : Int32)))])) t_
      refine XS.iconst X0.here hx rfl (hb hby d1_22) ?_
      show Steps p.tables e below (s₁.setTop (mkF m 23 #[.val (.int k), .val (.int x), .val (.int y), .val (.int u), .val (.int v), .val (.int (k &&& (3 : Int32)))] [(.int (2 : Int32)), (.int (k &&& (3 : Int32)))])) t_
      exact k_
    by_cases hc23 : (k &&& (3 : Int32)) = (2 : Int32)
    · rw [show F1_20 k x y u v = F1_26 k x y u v from if_pos hc23]
      refine Go.via (B := s₁.setTop (mkF m 26 #[.val (.int k), .val (.int x), .val (.int y), .val (.int u), .val (.int v), .val (.int (k &&& (3 : Int32)))] [])) (fun t_ k_ => XS.icmpNo X0.here hx rfl (hb hby d1_23) rfl ((teq hc23).2) k_) ?_
      exact t26
    · rw [show F1_20 k x y u v = F1_28 k x y u v from if_neg hc23]
      refine Go.via (B := s₁.setTop (mkF m 28 #[.val (.int k), .val (.int x), .val (.int y), .val (.int u), .val (.int v), .val (.int (k &&& (3 : Int32)))] [])) (fun t_ k_ => XS.icmpYes X0.here hx rfl (pc0 := 23) (pc' := 28) rfl (hb hby d1_23) rfl ((feq hc23).2) (by decide) (by decide) k_) ?_
      exact t28
  have t18 : Go p.tables e below (PQ s below (fun v_ h_ L_ => v_ = some (.int (F1_18 k x y u v)) ∧ Fr n0 L_ ∧ h_ = h0) 0 0) (s₁.setTop (mkF m 18 #[.val (.int k), .val (.int x), .val (.int y), .val (.int u), .val (.int v), .val (.int (k &&& (3 : Int32)))] [])) := by
    refine Go.via (B := s₁.setTop (mkF m 19 #[.val (.int k), .val (.int x), .val (.int y), .val (.int u), .val (.int v), .val (.int (k &&& (3 : Int32)))] [(.int y)])) (fun t_ k_ => ?_) ?_
    · show Steps p.tables e below (s₁.setTop (mkF m 18 #[.val (.int k), .val (.int x), .val (.int y), .val (.int u), .val (.int v), .val (.int (k &&& (3 : Int32)))] [])) t_
      refine XS.iloadN X0.here hx rfl (hb hby d1_18) rfl ?_
      show Steps p.tables e below (s₁.setTop (mkF m 19 #[.val (.int k), .val (.int x), .val (.int y), .val (.int u), .val (.int v), .val (.int (k &&& (3 : Int32)))] [(.int y)])) t_
      exact k_
    exact Go.leave X0 hlk (v := (some (.int y))) (fun h => by rw [hrt] at h; cases h) (fun fs hr => retI X0 hx hrt (hb hby d1_19) hr) (by decide) (by decide) (⟨rfl, N0, e0⟩)
  have t12 : Go p.tables e below (PQ s below (fun v_ h_ L_ => v_ = some (.int (F1_12 k x y u v)) ∧ Fr n0 L_ ∧ h_ = h0) 0 0) (s₁.setTop (mkF m 12 #[.val (.int k), .val (.int x), .val (.int y), .val (.int u), .val (.int v), .val (.int (k &&& (3 : Int32)))] [])) := by
    refine Go.via (B := s₁.setTop (mkF m 15 #[.val (.int k), .val (.int x), .val (.int y), .val (.int u), .val (.int v), .val (.int (k &&& (3 : Int32)))] [(.int (1 : Int32)), (.int (k &&& (3 : Int32)))])) (fun t_ k_ => ?_) ?_
    · show Steps p.tables e below (s₁.setTop (mkF m 12 #[.val (.int k), .val (.int x), .val (.int y), .val (.int u), .val (.int v), .val (.int (k &&& (3 : Int32)))] [])) t_
      refine XS.iload X0.here hx rfl (hb hby d1_12) rfl ?_
      show Steps p.tables e below (s₁.setTop (mkF m 14 #[.val (.int k), .val (.int x), .val (.int y), .val (.int u), .val (.int v), .val (.int (k &&& (3 : Int32)))] [(.int (k &&& (3 : Int32)))])) t_
      refine XS.iconst X0.here hx rfl (hb hby d1_14) ?_
      show Steps p.tables e below (s₁.setTop (mkF m 15 #[.val (.int k), .val (.int x), .val (.int y), .val (.int u), .val (.int v), .val (.int (k &&& (3 : Int32)))] [(.int (1 : Int32)), (.int (k &&& (3 : Int32)))])) t_
      exact k_
    by_cases hc15 : (k &&& (3 : Int32)) = (1 : Int32)
    · rw [show F1_12 k x y u v = F1_18 k x y u v from if_pos hc15]
      refine Go.via (B := s₁.setTop (mkF m 18 #[.val (.int k), .val (.int x), .val (.int y), .val (.int u), .val (.int v), .val (.int (k &&& (3 : Int32)))] [])) (fun t_ k_ => XS.icmpNo X0.here hx rfl (hb hby d1_15) rfl ((teq hc15).2) k_) ?_
      exact t18
    · rw [show F1_12 k x y u v = F1_20 k x y u v from if_neg hc15]
      refine Go.via (B := s₁.setTop (mkF m 20 #[.val (.int k), .val (.int x), .val (.int y), .val (.int u), .val (.int v), .val (.int (k &&& (3 : Int32)))] [])) (fun t_ k_ => XS.icmpYes X0.here hx rfl (pc0 := 15) (pc' := 20) rfl (hb hby d1_15) rfl ((feq hc15).2) (by decide) (by decide) k_) ?_
      exact t20
  have t10 : Go p.tables e below (PQ s below (fun v_ h_ L_ => v_ = some (.int (F1_10 k x y u v)) ∧ Fr n0 L_ ∧ h_ = h0) 0 0) (s₁.setTop (mkF m 10 #[.val (.int k), .val (.int x), .val (.int y), .val (.int u), .val (.int v), .val (.int (k &&& (3 : Int32)))] [])) := by
    refine Go.via (B := s₁.setTop (mkF m 11 #[.val (.int k), .val (.int x), .val (.int y), .val (.int u), .val (.int v), .val (.int (k &&& (3 : Int32)))] [(.int x)])) (fun t_ k_ => ?_) ?_
    · show Steps p.tables e below (s₁.setTop (mkF m 10 #[.val (.int k), .val (.int x), .val (.int y), .val (.int u), .val (.int v), .val (.int (k &&& (3 : Int32)))] [])) t_
      refine XS.iloadN X0.here hx rfl (hb hby d1_10) rfl ?_
      show Steps p.tables e below (s₁.setTop (mkF m 11 #[.val (.int k), .val (.int x), .val (.int y), .val (.int u), .val (.int v), .val (.int (k &&& (3 : Int32)))] [(.int x)])) t_
      exact k_
    exact Go.leave X0 hlk (v := (some (.int x))) (fun h => by rw [hrt] at h; cases h) (fun fs hr => retI X0 hx hrt (hb hby d1_11) hr) (by decide) (by decide) (⟨rfl, N0, e0⟩)
  have t0 : Go p.tables e below (PQ s below (fun v_ h_ L_ => v_ = some (.int (F1_0 k x y u v)) ∧ Fr n0 L_ ∧ h_ = h0) 0 0) (s₁.setTop (mkF m 0 #[.val (.int k), .val (.int x), .val (.int y), .val (.int u), .val (.int v), .unset] [])) := by
    refine Go.via (B := s₁.setTop (mkF m 7 #[.val (.int k), .val (.int x), .val (.int y), .val (.int u), .val (.int v), .val (.int (k &&& (3 : Int32)))] [(.int (k &&& (3 : Int32)))])) (fun t_ k_ => ?_) ?_
    · show Steps p.tables e below (s₁.setTop (mkF m 0 #[.val (.int k), .val (.int x), .val (.int y), .val (.int u), .val (.int v), .unset] [])) t_
      refine XS.iloadN X0.here hx rfl (hb hby d1_0) rfl ?_
      show Steps p.tables e below (s₁.setTop (mkF m 1 #[.val (.int k), .val (.int x), .val (.int y), .val (.int u), .val (.int v), .unset] [(.int k)])) t_
      refine XS.iconst X0.here hx rfl (hb hby d1_1) ?_
      show Steps p.tables e below (s₁.setTop (mkF m 2 #[.val (.int k), .val (.int x), .val (.int y), .val (.int u), .val (.int v), .unset] [(.int (3 : Int32)), (.int k)])) t_
      refine XS.iand X0.here hx rfl (hb hby d1_2) rfl ?_
      show Steps p.tables e below (s₁.setTop (mkF m 3 #[.val (.int k), .val (.int x), .val (.int y), .val (.int u), .val (.int v), .unset] [(.int (k &&& (3 : Int32)))])) t_
      refine XS.istore X0.here hx rfl (hb hby d1_3) rfl (l' := #[.val (.int k), .val (.int x), .val (.int y), .val (.int u), .val (.int v), .val (.int (k &&& (3 : Int32)))]) rfl ?_
      show Steps p.tables e below (s₁.setTop (mkF m 5 #[.val (.int k), .val (.int x), .val (.int y), .val (.int u), .val (.int v), .val (.int (k &&& (3 : Int32)))] [])) t_
      refine XS.iload X0.here hx rfl (hb hby d1_5) rfl ?_
      show Steps p.tables e below (s₁.setTop (mkF m 7 #[.val (.int k), .val (.int x), .val (.int y), .val (.int u), .val (.int v), .val (.int (k &&& (3 : Int32)))] [(.int (k &&& (3 : Int32)))])) t_
      exact k_
    by_cases hc7 : (k &&& (3 : Int32)) = (0 : Int32)
    · rw [show F1_0 k x y u v = F1_10 k x y u v from if_pos hc7]
      refine Go.via (B := s₁.setTop (mkF m 10 #[.val (.int k), .val (.int x), .val (.int y), .val (.int u), .val (.int v), .val (.int (k &&& (3 : Int32)))] [])) (fun t_ k_ => XS.ifNo X0.here hx rfl (hb hby d1_7) rfl (((if0 _ _).trans (teq hc7).2)) k_) ?_
      exact t10
    · rw [show F1_0 k x y u v = F1_12 k x y u v from if_neg hc7]
      refine Go.via (B := s₁.setTop (mkF m 12 #[.val (.int k), .val (.int x), .val (.int y), .val (.int u), .val (.int v), .val (.int (k &&& (3 : Int32)))] [])) (fun t_ k_ => XS.ifYes X0.here hx rfl (pc0 := 7) (pc' := 12) rfl (hb hby d1_7) rfl (((if0 _ _).trans (feq hc7).2)) (by decide) (by decide) k_) ?_
      exact t12
  refine Go.via (B := s₁.setTop (mkF m 0 #[.val (.int k), .val (.int x), .val (.int y), .val (.int u), .val (.int v), .unset] [])) (fun t_ k_ => castTop (ef_1 m k x y u v) k_) ?_
  exact t0
theorem d5_0 : decode prog_65_method_8_code 0 = .ok (.iload_n 0, 1) := by decide +kernel
theorem d5_1 : decode prog_65_method_8_code 1 = .ok (.iconst 4, 1) := by decide +kernel
theorem d5_2 : decode prog_65_method_8_code 2 = .ok (.if_icmp .eq 8, 3) := by decide +kernel
theorem d5_5 : decode prog_65_method_8_code 5 = .ok (.iload_n 0, 1) := by decide +kernel
theorem d5_6 : decode prog_65_method_8_code 6 = .ok (.iconst 3, 1) := by decide +kernel
theorem d5_7 : decode prog_65_method_8_code 7 = .ok (.if_icmp .ne 7, 3) := by decide +kernel
theorem d5_10 : decode prog_65_method_8_code 10 = .ok (.iconst 2, 1) := by decide +kernel
theorem d5_11 : decode prog_65_method_8_code 11 = .ok (.goto 4, 3) := by decide +kernel
theorem d5_14 : decode prog_65_method_8_code 14 = .ok (.iconst 1, 1) := by decide +kernel
theorem d5_15 : decode prog_65_method_8_code 15 = .ok (.ireturn, 1) := by decide +kernel
theorem pn_5 : plainName "com/example/bytewright/bytewright/classfile/VerificationType" = true := by first | (simp [plainName, overriddenIn]; done) | decide +kernel
theorem ef_5 (m : MethodId) (x0 : Int32) : entryFrame m #[(.int x0)] 1 = mkF m 0 #[.val (.int x0)] [] := by first | (simp [entryFrame, mkF, argsToLocals, Value.category]; done) | rfl
def F5_14 (v : Int32) : Int32 := (1 : Int32)
def F5_10 (v : Int32) : Int32 := (2 : Int32)
def F5_5 (v : Int32) : Int32 := if v = (3 : Int32) then F5_10 v else F5_14 v
def F5_0 (v : Int32) : Int32 := if v = (4 : Int32) then F5_10 v else F5_5 v
def Q5 (Z : State) (v : Int32) (h0 : Heap) (n0 : Nat) (v_ : Option Value) (h_ : Heap) (L_ : List Loc) : Prop := v_ = some (.int (F5_0 v)) ∧ Fr n0 L_ ∧ h_ = h0
set_option maxRecDepth 65536 in
set_option maxHeartbeats 40000000 in
theorem rm5 (l : Launch) (Z : State) (a0 : Array Value) (hw : ∀ d ∈ tables_1, d.before a0 Z = true) (ws : List Jvm.Cond) (v : Int32) (h0 : Heap) (n0 : Nat) (Z0 : n0 ≤ h0.size) :
    MetFree l (⟨"com/example/bytewright/bytewright/classfile/VerificationType", "size", "(I)I"⟩ : MethodName) (head1 (Jvm.Cond.code (⟨"com/example/bytewright/bytewright/classfile/VerificationType", "size", "(I)I"⟩ : MethodName) prog_65_method_8_code 1 (some .int) :: ws) ({ frames := 0, cells := 0, slots := 0, locals := 0 } : Room)) (fun a_ U_ => a_ = #[(.int v)] ∧ Z.Warmed39 U_.vm ∧ U_.heap = h0) (fun _ _ _ _ _ => True) (fun _ U_ o_ V_ => ∃ v_ L_, o_ = .returned v_ ∧ Q5 Z v h0 n0 v_ V_.heap L_ ∧ FrameEnd U_ o_ V_ L_ ({ frames := 0, cells := 0, slots := 0, locals := 0 } : Room).cells ({ frames := 0, cells := 0, slots := 0, locals := 0 } : Room).slots) := by
  refine MetFree.of_bodySF (plainFor_of_name pn_5) hisR ?_
  intro p e s m args below meth c s₁ Bd hml0 hP hK
  obtain ⟨rfl, hZ, hh⟩ := hP
  have hx := Bd.exec
  have hby := Bd.bytes
  have hml : c.maxLocals = 1 := hml0
  have hown : s.vm.findClass "com/example/bytewright/bytewright/classfile/VerificationType" = some m.cls := findClass_of_methodNamed Bd.named
  have hnm := (name_of_methodNamed Bd.named Bd.method).1
  have hlk : meth.locks = false := BodyLoose.notSynchronized Bd
  have hrt := Bd.returns
  have X0 : Stand p l e ({ frames := 0, cells := 0, slots := 0, locals := 0 } : Room) s m #[(.int v)] below meth c s₁ [] 0 0 := Stand.of_body Bd
  have e0 : s₁.heap = h0 := by rw [← hh, Bd.state]; rfl
  have N0 := Fr.nil n0
  show Go p.tables e below (PQ s below (Q5 Z v h0 n0) 0 0) _
  have t14 : Go p.tables e below (PQ s below (fun v_ h_ L_ => v_ = some (.int (F5_14 v)) ∧ Fr n0 L_ ∧ h_ = h0) 0 0) (s₁.setTop (mkF m 14 #[.val (.int v)] [])) := by
    refine Go.via (B := s₁.setTop (mkF m 15 #[.val (.int v)] [(.int (1 : Int32))])) (fun t_ k_ => ?_) ?_
    · show Steps p.tables e below (s₁.setTop (mkF m 14 #[.val (.int v)] [])) t_
      refine XS.iconst X0.here hx rfl (hb hby d5_14) ?_
      show Steps p.tables e below (s₁.setTop (mkF m 15 #[.val (.int v)] [(.int (1 : Int32))])) t_
      exact k_
    exact Go.leave X0 hlk (v := (some (.int (1 : Int32)))) (fun h => by rw [hrt] at h; cases h) (fun fs hr => retI X0 hx hrt (hb hby d5_15) hr) (by decide) (by decide) (⟨rfl, N0, e0⟩)
  have t10 : Go p.tables e below (PQ s below (fun v_ h_ L_ => v_ = some (.int (F5_10 v)) ∧ Fr n0 L_ ∧ h_ = h0) 0 0) (s₁.setTop (mkF m 10 #[.val (.int v)] [])) := by
    refine Go.via (B := s₁.setTop (mkF m 15 #[.val (.int v)] [(.int (2 : Int32))])) (fun t_ k_ => ?_) ?_
    · show Steps p.tables e below (s₁.setTop (mkF m 10 #[.val (.int v)] [])) t_
      refine XS.iconst X0.here hx rfl (hb hby d5_10) ?_
      show Steps p.tables e below (s₁.setTop (mkF m 11 #[.val (.int v)] [(.int (2 : Int32))])) t_
      refine XS.goto X0.here hx rfl (pc0 := 11) (pc' := 15) rfl (hb hby d5_11) (by decide) (by decide) ?_
      show Steps p.tables e below (s₁.setTop (mkF m 15 #[.val (.int v)] [(.int (2 : Int32))])) t_
      exact k_
    exact Go.leave X0 hlk (v := (some (.int (2 : Int32)))) (fun h => by rw [hrt] at h; cases h) (fun fs hr => retI X0 hx hrt (hb hby d5_15) hr) (by decide) (by decide) (⟨rfl, N0, e0⟩)
  have t5 : Go p.tables e below (PQ s below (fun v_ h_ L_ => v_ = some (.int (F5_5 v)) ∧ Fr n0 L_ ∧ h_ = h0) 0 0) (s₁.setTop (mkF m 5 #[.val (.int v)] [])) := by
    refine Go.via (B := s₁.setTop (mkF m 7 #[.val (.int v)] [(.int (3 : Int32)), (.int v)])) (fun t_ k_ => ?_) ?_
    · show Steps p.tables e below (s₁.setTop (mkF m 5 #[.val (.int v)] [])) t_
      refine XS.iloadN X0.here hx rfl (hb hby d5_5) rfl ?_
      show Steps p.tables e below (s₁.setTop (mkF m 6 #[.val (.int v)] [(.int v)])) t_
      refine XS.iconst X0.here hx rfl (hb hby d5_6) ?_
      show Steps p.tables e below (s₁.setTop (mkF m 7 #[.val (.int v)] [(.int (3 : Int32)), (.int v)])) t_
      exact k_
    by_cases hc7 : v = (3 : Int32)
    · rw [show F5_5 v = F5_10 v from if_pos hc7]
      refine Go.via (B := s₁.setTop (mkF m 10 #[.val (.int v)] [])) (fun t_ k_ => XS.icmpNo X0.here hx rfl (hb hby d5_7) rfl ((teq hc7).2) k_) ?_
      exact t10
    · rw [show F5_5 v = F5_14 v from if_neg hc7]
      refine Go.via (B := s₁.setTop (mkF m 14 #[.val (.int v)] [])) (fun t_ k_ => XS.icmpYes X0.here hx rfl (pc0 := 7) (pc' := 14) rfl (hb hby d5_7) rfl ((feq hc7).2) (by decide) (by decide) k_) ?_
      exact t14
  have t0 : Go p.tables e below (PQ s below (fun v_ h_ L_ => v_ = some (.int (F5_0 v)) ∧ Fr n0 L_ ∧ h_ = h0) 0 0) (s₁.setTop (mkF m 0 #[.val (.int v)] [])) := by
    refine Go.via (B := s₁.setTop (mkF m 2 #[.val (.int v)] [(.int (4 : Int32)), (.int v)])) (fun t_ k_ => ?_) ?_
    · show Steps p.tables e below (s₁.setTop (mkF m 0 #[.val (.int v)] [])) t_
      refine XS.iloadN X0.here hx rfl (hb hby d5_0) rfl ?_
      show Steps p.tables e below (s₁.setTop (mkF m 1 #[.val (.int v)] [(.int v)])) t_
      refine XS.iconst X0.here hx rfl (hb hby d5_1) ?_
      show Steps p.tables e below (s₁.setTop (mkF m 2 #[.val (.int v)] [(.int (4 : Int32)), (.int v)])) t_
      exact k_
    by_cases hc2 : v = (4 : Int32)
    · rw [show F5_0 v = F5_10 v from if_pos hc2]
      refine Go.via (B := s₁.setTop (mkF m 10 #[.val (.int v)] [])) (fun t_ k_ => XS.icmpYes X0.here hx rfl (pc0 := 2) (pc' := 10) rfl (hb hby d5_2) rfl ((teq hc2).1) (by decide) (by decide) k_) ?_
      exact t10
    · rw [show F5_0 v = F5_5 v from if_neg hc2]
      refine Go.via (B := s₁.setTop (mkF m 5 #[.val (.int v)] [])) (fun t_ k_ => XS.icmpNo X0.here hx rfl (hb hby d5_2) rfl ((feq hc2).1) k_) ?_
      exact t5
  refine Go.via (B := s₁.setTop (mkF m 0 #[.val (.int v)] [])) (fun t_ k_ => castTop (ef_5 m v) k_) ?_
  exact t0
theorem d7_0 : decode jdk_29_method_65_code 0 = .ok (.iload_n 0, 1) := by decide +kernel
theorem d7_1 : decode jdk_29_method_65_code 1 = .ok (.iload_n 1, 1) := by decide +kernel
theorem d7_2 : decode jdk_29_method_65_code 2 = .ok (.if_icmp .lt 7, 3) := by decide +kernel
theorem d7_5 : decode jdk_29_method_65_code 5 = .ok (.iload_n 0, 1) := by decide +kernel
theorem d7_6 : decode jdk_29_method_65_code 6 = .ok (.goto 4, 3) := by decide +kernel
theorem d7_9 : decode jdk_29_method_65_code 9 = .ok (.iload_n 1, 1) := by decide +kernel
theorem d7_10 : decode jdk_29_method_65_code 10 = .ok (.ireturn, 1) := by decide +kernel
theorem ef_7 (m : MethodId) (x0 : Int32) (x1 : Int32) : entryFrame m #[(.int x0), (.int x1)] 2 = mkF m 0 #[.val (.int x0), .val (.int x1)] [] := by first | (simp [entryFrame, mkF, argsToLocals, Value.category]; done) | rfl
def F7_9 (x : Int32) (y : Int32) : Int32 := y
def F7_5 (x : Int32) (y : Int32) : Int32 := x
def F7_0 (x : Int32) (y : Int32) : Int32 := if x < y then F7_9 x y else F7_5 x y
def Q7 (Z : State) (x : Int32) (y : Int32) (h0 : Heap) (n0 : Nat) (v_ : Option Value) (h_ : Heap) (L_ : List Loc) : Prop := v_ = some (.int (F7_0 x y)) ∧ Fr n0 L_ ∧ h_ = h0
set_option maxRecDepth 65536 in
set_option maxHeartbeats 40000000 in
theorem rm7 (l : Launch) (Z : State) (a0 : Array Value) (hw : ∀ d ∈ tables_1, d.before a0 Z = true) (ws : List Jvm.Cond) (x : Int32) (y : Int32) (h0 : Heap) (n0 : Nat) (Z0 : n0 ≤ h0.size) :
    MetFree l (⟨"java/lang/Math", "max", "(II)I"⟩ : MethodName) (head1 (Jvm.Cond.code (⟨"java/lang/Math", "max", "(II)I"⟩ : MethodName) jdk_29_method_65_code 2 (some .int) :: ws) ({ frames := 0, cells := 0, slots := 0, locals := 0 } : Room)) (fun a_ U_ => a_ = #[(.int x), (.int y)] ∧ Z.Warmed39 U_.vm ∧ U_.heap = h0) (fun _ _ _ _ _ => True) (fun _ U_ o_ V_ => ∃ v_ L_, o_ = .returned v_ ∧ Q7 Z x y h0 n0 v_ V_.heap L_ ∧ FrameEnd U_ o_ V_ L_ ({ frames := 0, cells := 0, slots := 0, locals := 0 } : Room).cells ({ frames := 0, cells := 0, slots := 0, locals := 0 } : Room).slots) := by
  refine MetFree.of_bodySF (Jvm.Free.JP.mathPlain rfl (by decide +kernel)) hisR ?_
  intro p e s m args below meth c s₁ Bd hml0 hP hK
  obtain ⟨rfl, hZ, hh⟩ := hP
  have hx := Bd.exec
  have hby := Bd.bytes
  have hml : c.maxLocals = 2 := hml0
  have hown : s.vm.findClass "java/lang/Math" = some m.cls := findClass_of_methodNamed Bd.named
  have hnm := (name_of_methodNamed Bd.named Bd.method).1
  have hlk : meth.locks = false := BodyLoose.notSynchronized Bd
  have hrt := Bd.returns
  have X0 : Stand p l e ({ frames := 0, cells := 0, slots := 0, locals := 0 } : Room) s m #[(.int x), (.int y)] below meth c s₁ [] 0 0 := Stand.of_body Bd
  have e0 : s₁.heap = h0 := by rw [← hh, Bd.state]; rfl
  have N0 := Fr.nil n0
  show Go p.tables e below (PQ s below (Q7 Z x y h0 n0) 0 0) _
  have t9 : Go p.tables e below (PQ s below (fun v_ h_ L_ => v_ = some (.int (F7_9 x y)) ∧ Fr n0 L_ ∧ h_ = h0) 0 0) (s₁.setTop (mkF m 9 #[.val (.int x), .val (.int y)] [])) := by
    refine Go.via (B := s₁.setTop (mkF m 10 #[.val (.int x), .val (.int y)] [(.int y)])) (fun t_ k_ => ?_) ?_
    · show Steps p.tables e below (s₁.setTop (mkF m 9 #[.val (.int x), .val (.int y)] [])) t_
      refine XS.iloadN X0.here hx rfl (hb hby d7_9) rfl ?_
      show Steps p.tables e below (s₁.setTop (mkF m 10 #[.val (.int x), .val (.int y)] [(.int y)])) t_
      exact k_
    exact Go.leave X0 hlk (v := (some (.int y))) (fun h => by rw [hrt] at h; cases h) (fun fs hr => retI X0 hx hrt (hb hby d7_10) hr) (by decide) (by decide) (⟨rfl, N0, e0⟩)
  have t5 : Go p.tables e below (PQ s below (fun v_ h_ L_ => v_ = some (.int (F7_5 x y)) ∧ Fr n0 L_ ∧ h_ = h0) 0 0) (s₁.setTop (mkF m 5 #[.val (.int x), .val (.int y)] [])) := by
    refine Go.via (B := s₁.setTop (mkF m 10 #[.val (.int x), .val (.int y)] [(.int x)])) (fun t_ k_ => ?_) ?_
    · show Steps p.tables e below (s₁.setTop (mkF m 5 #[.val (.int x), .val (.int y)] [])) t_
      refine XS.iloadN X0.here hx rfl (hb hby d7_5) rfl ?_
      show Steps p.tables e below (s₁.setTop (mkF m 6 #[.val (.int x), .val (.int y)] [(.int x)])) t_
      refine XS.goto X0.here hx rfl (pc0 := 6) (pc' := 10) rfl (hb hby d7_6) (by decide) (by decide) ?_
      show Steps p.tables e below (s₁.setTop (mkF m 10 #[.val (.int x), .val (.int y)] [(.int x)])) t_
      exact k_
    exact Go.leave X0 hlk (v := (some (.int x))) (fun h => by rw [hrt] at h; cases h) (fun fs hr => retI X0 hx hrt (hb hby d7_10) hr) (by decide) (by decide) (⟨rfl, N0, e0⟩)
  have t0 : Go p.tables e below (PQ s below (fun v_ h_ L_ => v_ = some (.int (F7_0 x y)) ∧ Fr n0 L_ ∧ h_ = h0) 0 0) (s₁.setTop (mkF m 0 #[.val (.int x), .val (.int y)] [])) := by
    refine Go.via (B := s₁.setTop (mkF m 2 #[.val (.int x), .val (.int y)] [(.int y), (.int x)])) (fun t_ k_ => ?_) ?_
    · show Steps p.tables e below (s₁.setTop (mkF m 0 #[.val (.int x), .val (.int y)] [])) t_
      refine XS.iloadN X0.here hx rfl (hb hby d7_0) rfl ?_
      show Steps p.tables e below (s₁.setTop (mkF m 1 #[.val (.int x), .val (.int y)] [(.int x)])) t_
      refine XS.iloadN X0.here hx rfl (hb hby d7_1) rfl ?_
      show Steps p.tables e below (s₁.setTop (mkF m 2 #[.val (.int x), .val (.int y)] [(.int y), (.int x)])) t_
      exact k_
    by_cases hc2 : x < y
    · rw [show F7_0 x y = F7_9 x y from if_pos hc2]
      refine Go.via (B := s₁.setTop (mkF m 9 #[.val (.int x), .val (.int y)] [])) (fun t_ k_ => XS.icmpYes X0.here hx rfl (pc0 := 2) (pc' := 9) rfl (hb hby d7_2) rfl ((tlt hc2).1) (by decide) (by decide) k_) ?_
      exact t9
    · rw [show F7_0 x y = F7_5 x y from if_neg hc2]
      refine Go.via (B := s₁.setTop (mkF m 5 #[.val (.int x), .val (.int y)] [])) (fun t_ k_ => XS.icmpNo X0.here hx rfl (hb hby d7_2) rfl ((flt hc2).1) k_) ?_
      exact t5
  refine Go.via (B := s₁.setTop (mkF m 0 #[.val (.int x), .val (.int y)] [])) (fun t_ k_ => castTop (ef_7 m x y) k_) ?_
  exact t0
theorem d9_0 : decode jdk_29_method_69_code 0 = .ok (.iload_n 0, 1) := by decide +kernel
theorem d9_1 : decode jdk_29_method_69_code 1 = .ok (.iload_n 1, 1) := by decide +kernel
theorem d9_2 : decode jdk_29_method_69_code 2 = .ok (.if_icmp .gt 7, 3) := by decide +kernel
theorem d9_5 : decode jdk_29_method_69_code 5 = .ok (.iload_n 0, 1) := by decide +kernel
theorem d9_6 : decode jdk_29_method_69_code 6 = .ok (.goto 4, 3) := by decide +kernel
theorem d9_9 : decode jdk_29_method_69_code 9 = .ok (.iload_n 1, 1) := by decide +kernel
theorem d9_10 : decode jdk_29_method_69_code 10 = .ok (.ireturn, 1) := by decide +kernel
theorem ef_9 (m : MethodId) (x0 : Int32) (x1 : Int32) : entryFrame m #[(.int x0), (.int x1)] 2 = mkF m 0 #[.val (.int x0), .val (.int x1)] [] := by first | (simp [entryFrame, mkF, argsToLocals, Value.category]; done) | rfl
def F9_9 (x : Int32) (y : Int32) : Int32 := y
def F9_5 (x : Int32) (y : Int32) : Int32 := x
def F9_0 (x : Int32) (y : Int32) : Int32 := if y < x then F9_9 x y else F9_5 x y
def Q9 (Z : State) (x : Int32) (y : Int32) (h0 : Heap) (n0 : Nat) (v_ : Option Value) (h_ : Heap) (L_ : List Loc) : Prop := v_ = some (.int (F9_0 x y)) ∧ Fr n0 L_ ∧ h_ = h0
set_option maxRecDepth 65536 in
set_option maxHeartbeats 40000000 in
theorem rm9 (l : Launch) (Z : State) (a0 : Array Value) (hw : ∀ d ∈ tables_1, d.before a0 Z = true) (ws : List Jvm.Cond) (x : Int32) (y : Int32) (h0 : Heap) (n0 : Nat) (Z0 : n0 ≤ h0.size) :
    MetFree l (⟨"java/lang/Math", "min", "(II)I"⟩ : MethodName) (head1 (Jvm.Cond.code (⟨"java/lang/Math", "min", "(II)I"⟩ : MethodName) jdk_29_method_69_code 2 (some .int) :: ws) ({ frames := 0, cells := 0, slots := 0, locals := 0 } : Room)) (fun a_ U_ => a_ = #[(.int x), (.int y)] ∧ Z.Warmed39 U_.vm ∧ U_.heap = h0) (fun _ _ _ _ _ => True) (fun _ U_ o_ V_ => ∃ v_ L_, o_ = .returned v_ ∧ Q9 Z x y h0 n0 v_ V_.heap L_ ∧ FrameEnd U_ o_ V_ L_ ({ frames := 0, cells := 0, slots := 0, locals := 0 } : Room).cells ({ frames := 0, cells := 0, slots := 0, locals := 0 } : Room).slots) := by
  refine MetFree.of_bodySF (Jvm.Free.JP.mathPlain rfl (by decide +kernel)) hisR ?_
  intro p e s m args below meth c s₁ Bd hml0 hP hK
  obtain ⟨rfl, hZ, hh⟩ := hP
  have hx := Bd.exec
  have hby := Bd.bytes
  have hml : c.maxLocals = 2 := hml0
  have hown : s.vm.findClass "java/lang/Math" = some m.cls := findClass_of_methodNamed Bd.named
  have hnm := (name_of_methodNamed Bd.named Bd.method).1
  have hlk : meth.locks = false := BodyLoose.notSynchronized Bd
  have hrt := Bd.returns
  have X0 : Stand p l e ({ frames := 0, cells := 0, slots := 0, locals := 0 } : Room) s m #[(.int x), (.int y)] below meth c s₁ [] 0 0 := Stand.of_body Bd
  have e0 : s₁.heap = h0 := by rw [← hh, Bd.state]; rfl
  have N0 := Fr.nil n0
  show Go p.tables e below (PQ s below (Q9 Z x y h0 n0) 0 0) _
  have t9 : Go p.tables e below (PQ s below (fun v_ h_ L_ => v_ = some (.int (F9_9 x y)) ∧ Fr n0 L_ ∧ h_ = h0) 0 0) (s₁.setTop (mkF m 9 #[.val (.int x), .val (.int y)] [])) := by
    refine Go.via (B := s₁.setTop (mkF m 10 #[.val (.int x), .val (.int y)] [(.int y)])) (fun t_ k_ => ?_) ?_
    · show Steps p.tables e below (s₁.setTop (mkF m 9 #[.val (.int x), .val (.int y)] [])) t_
      refine XS.iloadN X0.here hx rfl (hb hby d9_9) rfl ?_
      show Steps p.tables e below (s₁.setTop (mkF m 10 #[.val (.int x), .val (.int y)] [(.int y)])) t_
      exact k_
    exact Go.leave X0 hlk (v := (some (.int y))) (fun h => by rw [hrt] at h; cases h) (fun fs hr => retI X0 hx hrt (hb hby d9_10) hr) (by decide) (by decide) (⟨rfl, N0, e0⟩)
  have t5 : Go p.tables e below (PQ s below (fun v_ h_ L_ => v_ = some (.int (F9_5 x y)) ∧ Fr n0 L_ ∧ h_ = h0) 0 0) (s₁.setTop (mkF m 5 #[.val (.int x), .val (.int y)] [])) := by
    refine Go.via (B := s₁.setTop (mkF m 10 #[.val (.int x), .val (.int y)] [(.int x)])) (fun t_ k_ => ?_) ?_
    · show Steps p.tables e below (s₁.setTop (mkF m 5 #[.val (.int x), .val (.int y)] [])) t_
      refine XS.iloadN X0.here hx rfl (hb hby d9_5) rfl ?_
      show Steps p.tables e below (s₁.setTop (mkF m 6 #[.val (.int x), .val (.int y)] [(.int x)])) t_
      refine XS.goto X0.here hx rfl (pc0 := 6) (pc' := 10) rfl (hb hby d9_6) (by decide) (by decide) ?_
      show Steps p.tables e below (s₁.setTop (mkF m 10 #[.val (.int x), .val (.int y)] [(.int x)])) t_
      exact k_
    exact Go.leave X0 hlk (v := (some (.int x))) (fun h => by rw [hrt] at h; cases h) (fun fs hr => retI X0 hx hrt (hb hby d9_10) hr) (by decide) (by decide) (⟨rfl, N0, e0⟩)
  have t0 : Go p.tables e below (PQ s below (fun v_ h_ L_ => v_ = some (.int (F9_0 x y)) ∧ Fr n0 L_ ∧ h_ = h0) 0 0) (s₁.setTop (mkF m 0 #[.val (.int x), .val (.int y)] [])) := by
    refine Go.via (B := s₁.setTop (mkF m 2 #[.val (.int x), .val (.int y)] [(.int y), (.int x)])) (fun t_ k_ => ?_) ?_
    · show Steps p.tables e below (s₁.setTop (mkF m 0 #[.val (.int x), .val (.int y)] [])) t_
      refine XS.iloadN X0.here hx rfl (hb hby d9_0) rfl ?_
      show Steps p.tables e below (s₁.setTop (mkF m 1 #[.val (.int x), .val (.int y)] [(.int x)])) t_
      refine XS.iloadN X0.here hx rfl (hb hby d9_1) rfl ?_
      show Steps p.tables e below (s₁.setTop (mkF m 2 #[.val (.int x), .val (.int y)] [(.int y), (.int x)])) t_
      exact k_
    by_cases hc2 : y < x
    · rw [show F9_0 x y = F9_9 x y from if_pos hc2]
      refine Go.via (B := s₁.setTop (mkF m 9 #[.val (.int x), .val (.int y)] [])) (fun t_ k_ => XS.icmpYes X0.here hx rfl (pc0 := 2) (pc' := 9) rfl (hb hby d9_2) rfl ((tlt hc2).2.2.1) (by decide) (by decide) k_) ?_
      exact t9
    · rw [show F9_0 x y = F9_5 x y from if_neg hc2]
      refine Go.via (B := s₁.setTop (mkF m 5 #[.val (.int x), .val (.int y)] [])) (fun t_ k_ => XS.icmpNo X0.here hx rfl (hb hby d9_2) rfl ((flt hc2).2.2.1) k_) ?_
      exact t5
  refine Go.via (B := s₁.setTop (mkF m 0 #[.val (.int x), .val (.int y)] [])) (fun t_ k_ => castTop (ef_9 m x y) k_) ?_
  exact t0
theorem d12_0 : decode method_3_code 0 = .ok (.iload_n 0, 1) := by decide +kernel
theorem d12_1 : decode method_3_code 1 = .ok (.iload_n 1, 1) := by decide +kernel
theorem d12_2 : decode method_3_code 2 = .ok (.if_icmp .ne 7, 3) := by decide +kernel
theorem d12_5 : decode method_3_code 5 = .ok (.iload_n 2, 1) := by decide +kernel
theorem d12_6 : decode method_3_code 6 = .ok (.goto 4, 3) := by decide +kernel
theorem d12_9 : decode method_3_code 9 = .ok (.iload_n 0, 1) := by decide +kernel
theorem d12_10 : decode method_3_code 10 = .ok (.ireturn, 1) := by decide +kernel
theorem pn_12 : plainName "com/example/bytewright/bytewright/classfile/FrameReplacePinLaw" = true := by first | (simp [plainName, overriddenIn]; done) | decide +kernel
theorem ef_12 (m : MethodId) (x0 : Int32) (x1 : Int32) (x2 : Int32) : entryFrame m #[(.int x0), (.int x1), (.int x2)] 3 = mkF m 0 #[.val (.int x0), .val (.int x1), .val (.int x2)] [] := by first | (simp [entryFrame, mkF, argsToLocals, Value.category]; done) | rfl
def F12_9 (v : Int32) (x : Int32) (y : Int32) : Int32 := v
def F12_5 (v : Int32) (x : Int32) (y : Int32) : Int32 := y
def F12_0 (v : Int32) (x : Int32) (y : Int32) : Int32 := if v = x then F12_5 v x y else F12_9 v x y
def Q12 (Z : State) (v : Int32) (x : Int32) (y : Int32) (h0 : Heap) (n0 : Nat) (v_ : Option Value) (h_ : Heap) (L_ : List Loc) : Prop := v_ = some (.int (F12_0 v x y)) ∧ Fr n0 L_ ∧ h_ = h0
set_option maxRecDepth 65536 in
set_option maxHeartbeats 40000000 in
theorem rm12 (l : Launch) (Z : State) (a0 : Array Value) (hw : ∀ d ∈ tables_1, d.before a0 Z = true) (ws : List Jvm.Cond) (v : Int32) (x : Int32) (y : Int32) (h0 : Heap) (n0 : Nat) (Z0 : n0 ≤ h0.size) :
    MetFree l (⟨"com/example/bytewright/bytewright/classfile/FrameReplacePinLaw", "after", "(III)I"⟩ : MethodName) (head1 (Jvm.Cond.code (⟨"com/example/bytewright/bytewright/classfile/FrameReplacePinLaw", "after", "(III)I"⟩ : MethodName) method_3_code 3 (some .int) :: ws) ({ frames := 0, cells := 0, slots := 0, locals := 0 } : Room)) (fun a_ U_ => a_ = #[(.int v), (.int x), (.int y)] ∧ Z.Warmed39 U_.vm ∧ U_.heap = h0) (fun _ _ _ _ _ => True) (fun _ U_ o_ V_ => ∃ v_ L_, o_ = .returned v_ ∧ Q12 Z v x y h0 n0 v_ V_.heap L_ ∧ FrameEnd U_ o_ V_ L_ ({ frames := 0, cells := 0, slots := 0, locals := 0 } : Room).cells ({ frames := 0, cells := 0, slots := 0, locals := 0 } : Room).slots) := by
  refine MetFree.of_bodySF (plainFor_of_name pn_12) hisR ?_
  intro p e s m args below meth c s₁ Bd hml0 hP hK
  obtain ⟨rfl, hZ, hh⟩ := hP
  have hx := Bd.exec
  have hby := Bd.bytes
  have hml : c.maxLocals = 3 := hml0
  have hown : s.vm.findClass "com/example/bytewright/bytewright/classfile/FrameReplacePinLaw" = some m.cls := findClass_of_methodNamed Bd.named
  have hnm := (name_of_methodNamed Bd.named Bd.method).1
  have hlk : meth.locks = false := BodyLoose.notSynchronized Bd
  have hrt := Bd.returns
  have X0 : Stand p l e ({ frames := 0, cells := 0, slots := 0, locals := 0 } : Room) s m #[(.int v), (.int x), (.int y)] below meth c s₁ [] 0 0 := Stand.of_body Bd
  have e0 : s₁.heap = h0 := by rw [← hh, Bd.state]; rfl
  have N0 := Fr.nil n0
  show Go p.tables e below (PQ s below (Q12 Z v x y h0 n0) 0 0) _
  have t9 : Go p.tables e below (PQ s below (fun v_ h_ L_ => v_ = some (.int (F12_9 v x y)) ∧ Fr n0 L_ ∧ h_ = h0) 0 0) (s₁.setTop (mkF m 9 #[.val (.int v), .val (.int x), .val (.int y)] [])) := by
    refine Go.via (B := s₁.setTop (mkF m 10 #[.val (.int v), .val (.int x), .val (.int y)] [(.int v)])) (fun t_ k_ => ?_) ?_
    · show Steps p.tables e below (s₁.setTop (mkF m 9 #[.val (.int v), .val (.int x), .val (.int y)] [])) t_
      refine XS.iloadN X0.here hx rfl (hb hby d12_9) rfl ?_
      show Steps p.tables e below (s₁.setTop (mkF m 10 #[.val (.int v), .val (.int x), .val (.int y)] [(.int v)])) t_
      exact k_
    exact Go.leave X0 hlk (v := (some (.int v))) (fun h => by rw [hrt] at h; cases h) (fun fs hr => retI X0 hx hrt (hb hby d12_10) hr) (by decide) (by decide) (⟨rfl, N0, e0⟩)
  have t5 : Go p.tables e below (PQ s below (fun v_ h_ L_ => v_ = some (.int (F12_5 v x y)) ∧ Fr n0 L_ ∧ h_ = h0) 0 0) (s₁.setTop (mkF m 5 #[.val (.int v), .val (.int x), .val (.int y)] [])) := by
    refine Go.via (B := s₁.setTop (mkF m 10 #[.val (.int v), .val (.int x), .val (.int y)] [(.int y)])) (fun t_ k_ => ?_) ?_
    · show Steps p.tables e below (s₁.setTop (mkF m 5 #[.val (.int v), .val (.int x), .val (.int y)] [])) t_
      refine XS.iloadN X0.here hx rfl (hb hby d12_5) rfl ?_
      show Steps p.tables e below (s₁.setTop (mkF m 6 #[.val (.int v), .val (.int x), .val (.int y)] [(.int y)])) t_
      refine XS.goto X0.here hx rfl (pc0 := 6) (pc' := 10) rfl (hb hby d12_6) (by decide) (by decide) ?_
      show Steps p.tables e below (s₁.setTop (mkF m 10 #[.val (.int v), .val (.int x), .val (.int y)] [(.int y)])) t_
      exact k_
    exact Go.leave X0 hlk (v := (some (.int y))) (fun h => by rw [hrt] at h; cases h) (fun fs hr => retI X0 hx hrt (hb hby d12_10) hr) (by decide) (by decide) (⟨rfl, N0, e0⟩)
  have t0 : Go p.tables e below (PQ s below (fun v_ h_ L_ => v_ = some (.int (F12_0 v x y)) ∧ Fr n0 L_ ∧ h_ = h0) 0 0) (s₁.setTop (mkF m 0 #[.val (.int v), .val (.int x), .val (.int y)] [])) := by
    refine Go.via (B := s₁.setTop (mkF m 2 #[.val (.int v), .val (.int x), .val (.int y)] [(.int x), (.int v)])) (fun t_ k_ => ?_) ?_
    · show Steps p.tables e below (s₁.setTop (mkF m 0 #[.val (.int v), .val (.int x), .val (.int y)] [])) t_
      refine XS.iloadN X0.here hx rfl (hb hby d12_0) rfl ?_
      show Steps p.tables e below (s₁.setTop (mkF m 1 #[.val (.int v), .val (.int x), .val (.int y)] [(.int v)])) t_
      refine XS.iloadN X0.here hx rfl (hb hby d12_1) rfl ?_
      show Steps p.tables e below (s₁.setTop (mkF m 2 #[.val (.int v), .val (.int x), .val (.int y)] [(.int x), (.int v)])) t_
      exact k_
    by_cases hc2 : v = x
    · rw [show F12_0 v x y = F12_5 v x y from if_pos hc2]
      refine Go.via (B := s₁.setTop (mkF m 5 #[.val (.int v), .val (.int x), .val (.int y)] [])) (fun t_ k_ => XS.icmpNo X0.here hx rfl (hb hby d12_2) rfl ((teq hc2).2) k_) ?_
      exact t5
    · rw [show F12_0 v x y = F12_9 v x y from if_neg hc2]
      refine Go.via (B := s₁.setTop (mkF m 9 #[.val (.int v), .val (.int x), .val (.int y)] [])) (fun t_ k_ => XS.icmpYes X0.here hx rfl (pc0 := 2) (pc' := 9) rfl (hb hby d12_2) rfl ((feq hc2).2) (by decide) (by decide) k_) ?_
      exact t9
  refine Go.via (B := s₁.setTop (mkF m 0 #[.val (.int v), .val (.int x), .val (.int y)] [])) (fun t_ k_ => castTop (ef_12 m v x y) k_) ?_
  exact t0
theorem own_size (v : Int32) : F5_0 v = 1 ∨ F5_0 v = 2 := by
  by_cases h : v = 4
  · right; rw [F5_0, if_pos h]; rfl
  · by_cases h3 : v = 3
    · right; rw [F5_0, if_neg h, F5_5, if_pos h3]; rfl
    · left; rw [F5_0, if_neg h, F5_5, if_neg h3]; rfl
theorem own_aft (v x y : Int32) : F12_0 v x y = if v = x then y else v := rfl
theorem own_min (x y : Int32) : (y < x → F9_0 x y = y) ∧ (¬ y < x → F9_0 x y = x) := ⟨fun h => by rw [F9_0, if_pos h]; rfl, fun h => by rw [F9_0, if_neg h]; rfl⟩
theorem own_minN {n : Nat} {y : Int32} (hn : n < 2 ^ 31) (h0 : 0 ≤ y.toInt) : ¬ F9_0 n.toInt32 y < 0 ∧ (F9_0 n.toInt32 y).toNatClampNeg ≤ n ∧ (F9_0 n.toInt32 y).toNatClampNeg ≤ y.toNatClampNeg ∧ ((F9_0 n.toInt32 y).toNatClampNeg = n ∨ (F9_0 n.toInt32 y).toNatClampNeg = y.toNatClampNeg) := by
  have q := nat32 hn
  have ln := len_toInt hn
  have qy := own_nat h0
  by_cases h : y < n.toInt32
  · rw [(own_min _ _).1 h]
    rw [Int32.lt_iff_toInt_lt, ln] at h
    exact ⟨qy.1, by omega, Nat.le_refl _, Or.inr rfl⟩
  · rw [(own_min _ _).2 h]
    rw [Int32.lt_iff_toInt_lt, ln] at h
    exact ⟨q.2, by omega, by omega, Or.inl q.1⟩
theorem d8_0 : decode jdk_65_method_123_code 0 = .ok (.iload_n 1, 1) := by decide +kernel
theorem d8_1 : decode jdk_65_method_123_code 1 = .ok (.aload_n 0, 1) := by decide +kernel
theorem d8_2 : decode jdk_65_method_123_code 2 = .ok (.arraylength, 1) := by decide +kernel
theorem d8_3 : decode jdk_65_method_123_code 3 = .ok (.if_icmp .ne 11, 3) := by decide +kernel
theorem d8_6 : decode jdk_65_method_123_code 6 = .ok (.aload_n 0, 1) := by decide +kernel
theorem d8_7 : decode jdk_65_method_123_code 7 = .ok (.invokevirtual 316, 3) := by decide +kernel
theorem d8_10 : decode jdk_65_method_123_code 10 = .ok (.checkcast 317, 3) := by decide +kernel
theorem d8_13 : decode jdk_65_method_123_code 13 = .ok (.areturn, 1) := by decide +kernel
theorem d8_14 : decode jdk_65_method_123_code 14 = .ok (.iload_n 1, 1) := by decide +kernel
theorem d8_15 : decode jdk_65_method_123_code 15 = .ok (.newarray .int, 2) := by decide +kernel
theorem d8_17 : decode jdk_65_method_123_code 17 = .ok (.astore_n 2, 1) := by decide +kernel
theorem d8_18 : decode jdk_65_method_123_code 18 = .ok (.aload_n 0, 1) := by decide +kernel
theorem d8_19 : decode jdk_65_method_123_code 19 = .ok (.iconst 0, 1) := by decide +kernel
theorem d8_20 : decode jdk_65_method_123_code 20 = .ok (.aload_n 2, 1) := by decide +kernel
theorem d8_21 : decode jdk_65_method_123_code 21 = .ok (.iconst 0, 1) := by decide +kernel
theorem d8_22 : decode jdk_65_method_123_code 22 = .ok (.aload_n 0, 1) := by decide +kernel
theorem d8_23 : decode jdk_65_method_123_code 23 = .ok (.arraylength, 1) := by decide +kernel
theorem d8_24 : decode jdk_65_method_123_code 24 = .ok (.iload_n 1, 1) := by decide +kernel
theorem d8_25 : decode jdk_65_method_123_code 25 = .ok (.invokestatic 304, 3) := by decide +kernel
theorem d8_28 : decode jdk_65_method_123_code 28 = .ok (.invokestatic 150, 3) := by decide +kernel
theorem d8_31 : decode jdk_65_method_123_code 31 = .ok (.aload_n 2, 1) := by decide +kernel
theorem d8_32 : decode jdk_65_method_123_code 32 = .ok (.areturn, 1) := by decide +kernel
theorem pn_8 : plainName "java/util/Arrays" = true := by first | (simp [plainName, overriddenIn]; done) | decide +kernel
theorem ef_8 (m : MethodId) (x0 : Addr) (x1 : Int32) : entryFrame m #[(.ref x0), (.int x1)] 3 = mkF m 0 #[.val (.ref x0), .val (.int x1), .unset] [] := by first | (simp [entryFrame, mkF, argsToLocals, Value.category]; done) | rfl
def Q8 (Z : State) (a : Addr) (k : Int32) (n : Nat) (f : Nat → Int32) (h0 : Heap) (n0 : Nat) (v : Option Value) (h : Heap) (L : List Loc) : Prop := ∃ r : Addr, v = some (.ref r) ∧ Fr n0 L ∧ n0 ≤ r ∧ h0.size ≤ r ∧ Keep h0 h [] ∧ Ary Z h r .int k.toNatClampNeg (fun i => if i < n then f i else 0)
set_option maxRecDepth 65536 in
set_option maxHeartbeats 40000000 in
theorem rm8 (l : Launch) (Z : State) (a0 : Array Value) (hw : ∀ d ∈ tables_1, d.before a0 Z = true) (ws : List Jvm.Cond) (a : Addr) (k : Int32) (n : Nat) (f : Nat → Int32) (h0 : Heap) (n0 : Nat) (Z0 : n0 ≤ h0.size) (A : Ary Z h0 a .int n f) (hne : ¬ k = n.toInt32) (hk0 : 0 ≤ k.toInt) (hk1 : k.toInt ≤ 4) :
    MetFree l (⟨"java/util/Arrays", "copyOf", "([II)[I"⟩ : MethodName) (head1 (Jvm.Cond.code (⟨"java/util/Arrays", "copyOf", "([II)[I"⟩ : MethodName) jdk_65_method_123_code 3 (some (.array .int)) :: ws) ({ frames := 1, cells := 1, slots := 4, locals := 64 } : Room)) (fun a_ U_ => a_ = #[(.ref a), (.int k)] ∧ Z.Warmed39 U_.vm ∧ U_.heap = h0) (fun _ _ _ _ _ => True) (fun _ U_ o_ V_ => ∃ v_ L_, o_ = .returned v_ ∧ Q8 Z a k n f h0 n0 v_ V_.heap L_ ∧ FrameEnd U_ o_ V_ L_ ({ frames := 1, cells := 1, slots := 4, locals := 64 } : Room).cells ({ frames := 1, cells := 1, slots := 4, locals := 64 } : Room).slots) := by
  refine MetFree.of_bodySF (plainFor_of_name pn_8) hisR ?_
  intro p e s m args below meth c s₁ Bd hml0 hP hK
  obtain ⟨rfl, hZ, hh⟩ := hP
  have hx := Bd.exec
  have hby := Bd.bytes
  have hml : c.maxLocals = 3 := hml0
  have hown : s.vm.findClass "java/util/Arrays" = some m.cls := findClass_of_methodNamed Bd.named
  have hnm := (name_of_methodNamed Bd.named Bd.method).1
  have hlk : meth.locks = false := BodyLoose.notSynchronized Bd
  have hrt := Bd.returns
  have X0 : Stand p l e ({ frames := 1, cells := 1, slots := 4, locals := 64 } : Room) s m #[(.ref a), (.int k)] below meth c s₁ [] 0 0 := Stand.of_body Bd
  have e0 : s₁.heap = h0 := by rw [← hh, Bd.state]; rfl
  have N0 := Fr.nil n0
  show Go p.tables e below (PQ s below (Q8 Z a k n f h0 n0) 1 4) _
  refine Go.via (B := s₁.setTop (mkF m 0 #[.val (.ref a), .val (.int k), .unset] [])) (fun t_ k_ => castTop (ef_8 m a k) k_) ?_
  have hB : n < 2 ^ 31 := by obtain ⟨_, _, _, u, _⟩ := A; exact u
  have hkn := own_nat hk0
  refine Go.via (B := s₁.setTop (mkF m 2 #[.val (.ref a), .val (.int k), .unset] [(.ref a), (.int k)])) (fun t_ k_ => ?_) ?_
  · show Steps p.tables e below (s₁.setTop (mkF m 0 #[.val (.ref a), .val (.int k), .unset] [])) t_
    refine XS.iloadN X0.here hx rfl (hb hby d8_0) rfl ?_
    show Steps p.tables e below (s₁.setTop (mkF m 1 #[.val (.ref a), .val (.int k), .unset] [(.int k)])) t_
    refine XS.aloadN X0.here hx rfl (hb hby d8_1) rfl rfl ?_
    show Steps p.tables e below (s₁.setTop (mkF m 2 #[.val (.ref a), .val (.int k), .unset] [(.ref a), (.int k)])) t_
    exact k_
  refine Go.via (B := s₁.setTop (mkF m 3 #[.val (.ref a), .val (.int k), .unset] [(.int (n.toInt32)), (.int k)])) (fun t_ k_ => alen X0 hx hZ e0 A (g := (mkF m 2 #[.val (.ref a), .val (.int k), .unset] [(.ref a), (.int k)])) rfl rfl (hb hby d8_2) t_ k_) ?_
  refine Go.via (B := s₁.setTop (mkF m 14 #[.val (.ref a), .val (.int k), .unset] [])) (fun t_ k_ => XS.icmpYes X0.here hx rfl (pc0 := 3) (pc' := 14) rfl (hb hby d8_3) rfl ((feq hne).2) (by decide) (by decide) k_) ?_
  refine Go.via (B := s₁.setTop (mkF m 15 #[.val (.ref a), .val (.int k), .unset] [(.int k)])) (fun t_ k_ => ?_) ?_
  · show Steps p.tables e below (s₁.setTop (mkF m 14 #[.val (.ref a), .val (.int k), .unset] [])) t_
    refine XS.iloadN X0.here hx rfl (hb hby d8_14) rfl ?_
    show Steps p.tables e below (s₁.setTop (mkF m 15 #[.val (.ref a), .val (.int k), .unset] [(.int k)])) t_
    exact k_
  obtain ⟨T1, h1, k1, X1, e1, E1, A1, st1⟩ := newP X0 hx hZ (hw _ (List.mem_of_getElem? (i := 13) rfl)) e0 (g := (mkF m 15 #[.val (.ref a), .val (.int k), .unset] [(.int k)])) rfl (hb hby d8_15) rfl hkn.1 (cap := 4) (by omega) (by decide) (by decide) (by decide)
  obtain ⟨b1, g1⟩ : ∃ z, z = h0.size := ⟨_, rfl⟩
  rw [← g1] at A1 st1
  have gb1 : n0 ≤ b1 := Nat.le_trans Z0 (Nat.le_of_eq g1.symm)
  have Z1 : n0 ≤ h1.size := Nat.le_trans Z0 E1.1
  refine Go.via st1 ?_
  show Go p.tables e below _ (T1.setTop (mkF m 17 #[.val (.ref a), .val (.int k), .unset] [(.ref b1)]))
  have Aold := A.ext E1
  have Bnew : Ary Z h1 b1 .int k.toNatClampNeg (fun _ => 0) := Ary.new A1 hkn.1 rfl rfl
  refine Go.via (B := T1.setTop (mkF m 23 #[.val (.ref a), .val (.int k), .val (.ref b1)] [(.ref a), (.int (0 : Int32)), (.ref b1), (.int (0 : Int32)), (.ref a)])) (fun t_ k_ => ?_) ?_
  · show Steps p.tables e below (T1.setTop (mkF m 17 #[.val (.ref a), .val (.int k), .unset] [(.ref b1)])) t_
    refine XS.astoreN X1.here hx rfl (hb hby d8_17) rfl rfl (l' := #[.val (.ref a), .val (.int k), .val (.ref b1)]) rfl ?_
    show Steps p.tables e below (T1.setTop (mkF m 18 #[.val (.ref a), .val (.int k), .val (.ref b1)] [])) t_
    refine XS.aloadN X1.here hx rfl (hb hby d8_18) rfl rfl ?_
    show Steps p.tables e below (T1.setTop (mkF m 19 #[.val (.ref a), .val (.int k), .val (.ref b1)] [(.ref a)])) t_
    refine XS.iconst X1.here hx rfl (hb hby d8_19) ?_
    show Steps p.tables e below (T1.setTop (mkF m 20 #[.val (.ref a), .val (.int k), .val (.ref b1)] [(.int (0 : Int32)), (.ref a)])) t_
    refine XS.aloadN X1.here hx rfl (hb hby d8_20) rfl rfl ?_
    show Steps p.tables e below (T1.setTop (mkF m 21 #[.val (.ref a), .val (.int k), .val (.ref b1)] [(.ref b1), (.int (0 : Int32)), (.ref a)])) t_
    refine XS.iconst X1.here hx rfl (hb hby d8_21) ?_
    show Steps p.tables e below (T1.setTop (mkF m 22 #[.val (.ref a), .val (.int k), .val (.ref b1)] [(.int (0 : Int32)), (.ref b1), (.int (0 : Int32)), (.ref a)])) t_
    refine XS.aloadN X1.here hx rfl (hb hby d8_22) rfl rfl ?_
    show Steps p.tables e below (T1.setTop (mkF m 23 #[.val (.ref a), .val (.int k), .val (.ref b1)] [(.ref a), (.int (0 : Int32)), (.ref b1), (.int (0 : Int32)), (.ref a)])) t_
    exact k_
  refine Go.via (B := T1.setTop (mkF m 24 #[.val (.ref a), .val (.int k), .val (.ref b1)] [(.int (n.toInt32)), (.int (0 : Int32)), (.ref b1), (.int (0 : Int32)), (.ref a)])) (fun t_ k_ => alen X1 hx hZ e1 Aold (g := (mkF m 23 #[.val (.ref a), .val (.int k), .val (.ref b1)] [(.ref a), (.int (0 : Int32)), (.ref b1), (.int (0 : Int32)), (.ref a)])) rfl rfl (hb hby d8_23) t_ k_) ?_
  refine Go.via (B := T1.setTop (mkF m 25 #[.val (.ref a), .val (.int k), .val (.ref b1)] [(.int k), (.int (n.toInt32)), (.int (0 : Int32)), (.ref b1), (.int (0 : Int32)), (.ref a)])) (fun t_ k_ => ?_) ?_
  · show Steps p.tables e below (T1.setTop (mkF m 24 #[.val (.ref a), .val (.int k), .val (.ref b1)] [(.int (n.toInt32)), (.int (0 : Int32)), (.ref b1), (.int (0 : Int32)), (.ref a)])) t_
    refine XS.iloadN X1.here hx rfl (hb hby d8_24) rfl ?_
    show Steps p.tables e below (T1.setTop (mkF m 25 #[.val (.ref a), .val (.int k), .val (.ref b1)] [(.int k), (.int (n.toInt32)), (.int (0 : Int32)), (.ref b1), (.int (0 : Int32)), (.ref a)])) t_
    exact k_
  obtain ⟨_, _, ⟨T2, L2, k2, n2⟩, -, X2, ⟨Lc2, hQ2, l2, y2, z2⟩, st2⟩ := Jvm.LawKit.callS X1 hx (y := (⟨"java/lang/Math", "min", "(II)I"⟩ : MethodName)) hown (mvT hZ (hw _ (List.mem_of_getElem? (i := 44) rfl))) (mvT hZ (hw _ (List.mem_of_getElem? (i := 45) rfl))) (mvT hZ (hw _ (List.mem_of_getElem? (i := 38) rfl))) (mvT hZ (hw _ (List.mem_of_getElem? (i := 46) rfl))) (by decide) (backOf (W := 4) (rm9 l Z a0 hw [] (n.toInt32) k  h1 n0 Z1 ) hZ (hw _ (List.mem_of_getElem? (i := 46) rfl)) (hw _ (List.mem_of_getElem? (i := 38) rfl)) (by decide) (by decide)) (g := (mkF m 25 #[.val (.ref a), .val (.int k), .val (.ref b1)] [(.int k), (.int (n.toInt32)), (.int (0 : Int32)), (.ref b1), (.int (0 : Int32)), (.ref a)])) rfl (by rw [hml]; rfl) (argsL := [(.int (n.toInt32)), (.int k)]) (rest := [(.int (0 : Int32)), (.ref b1), (.int (0 : Int32)), (.ref a)]) (lenOf pd0 rfl) rfl (by show 2 * 0 + _ ≤ _; exact Nat.le_of_eq rfl) (hb hby d8_25) (fun _ _ => ⟨rfl, e1, (by decide : 1 + 0 ≤ _), (by decide : 4 + 0 ≤ _)⟩)
  dsimp only [Pt.U, Pt.locs, Pt.cells, Pt.slots] at X2 l2 y2 z2 st2 hQ2
  subst l2 y2 z2
  obtain ⟨rfl, N2q, e2⟩ := hQ2
  have N2 := Fr.app N0 N2q
  refine Go.via st2 ?_
  show Go p.tables e below _ (T2.setTop (mkF m 28 #[.val (.ref a), .val (.int k), .val (.ref b1)] [(.int (F9_0 (n.toInt32) k)), (.int (0 : Int32)), (.ref b1), (.int (0 : Int32)), (.ref a)]))
  have hmin := own_minN hB hk0
  obtain ⟨T3, h3, L3, X3, e3, N3, K3, V3, st3⟩ := acopy X2 hx hZ hown (hw _ (List.mem_of_getElem? (i := 47) rfl)) (hw _ (List.mem_of_getElem? (i := 50) rfl)) (hw _ (List.mem_of_getElem? (i := 48) rfl)) (hw _ (List.mem_of_getElem? (i := 49) rfl)) e2 Aold Bnew rfl hmin.1 hmin.2.1 hmin.2.2.1 N2 gb1 (g := (mkF m 28 #[.val (.ref a), .val (.int k), .val (.ref b1)] [(.int (F9_0 (n.toInt32) k)), (.int (0 : Int32)), (.ref b1), (.int (0 : Int32)), (.ref a)])) rfl (by rw [hml]; rfl) rfl (hb hby d8_28) (by decide) (W := 0) (by show 2 * 0 + _ ≤ _; exact Nat.le_of_eq rfl) (by decide)
  refine Go.via st3 ?_
  show Go p.tables e below _ (T3.setTop (mkF m 31 #[.val (.ref a), .val (.int k), .val (.ref b1)] []))
  refine Go.via (B := T3.setTop (mkF m 32 #[.val (.ref a), .val (.int k), .val (.ref b1)] [(.ref b1)])) (fun t_ k_ => ?_) ?_
  · show Steps p.tables e below (T3.setTop (mkF m 31 #[.val (.ref a), .val (.int k), .val (.ref b1)] [])) t_
    refine XS.aloadN X3.here hx rfl (hb hby d8_31) rfl rfl ?_
    show Steps p.tables e below (T3.setTop (mkF m 32 #[.val (.ref a), .val (.int k), .val (.ref b1)] [(.ref b1)])) t_
    exact k_
  have hV : Ary Z h3 b1 .int k.toNatClampNeg (fun i => if i < n then f i else 0) := by
    refine own_congr V3 fun i hi => ?_
    rcases hmin.2.2.2 with u | u
    · rw [u]
    · rw [u, if_pos hi]
      have : k.toNatClampNeg ≤ n := u ▸ hmin.2.1
      rw [if_pos (by omega)]
  exact Go.leave X3 hlk (v := (some (.ref b1))) (fun h => by rw [hrt] at h; cases h) (fun fs hr => retA X3 hx hrt rfl rfl (hb hby d8_32) hr) (by decide) (by decide) (⟨b1, rfl, N3, gb1, Nat.le_of_eq g1.symm, by rw [e3]; exact ((Keep.refl h0 []).ext E1).trans K3 (allS (Or.inr (Nat.le_of_eq g1.symm)) all0), by rw [e3]; exact hV⟩)
theorem d2_0 : decode prog_47_method_1_code 0 = .ok (.aload_n 0, 1) := by decide +kernel
theorem d2_1 : decode prog_47_method_1_code 1 = .ok (.invokespecial 1, 3) := by decide +kernel
theorem d2_4 : decode prog_47_method_1_code 4 = .ok (.aload_n 0, 1) := by decide +kernel
theorem d2_5 : decode prog_47_method_1_code 5 = .ok (.iload_n 1, 1) := by decide +kernel
theorem d2_6 : decode prog_47_method_1_code 6 = .ok (.newarray .int, 2) := by decide +kernel
theorem d2_8 : decode prog_47_method_1_code 8 = .ok (.putfield 7, 3) := by decide +kernel
theorem d2_11 : decode prog_47_method_1_code 11 = .ok (.aload_n 0, 1) := by decide +kernel
theorem d2_12 : decode prog_47_method_1_code 12 = .ok (.getstatic 13, 3) := by decide +kernel
theorem d2_15 : decode prog_47_method_1_code 15 = .ok (.putfield 16, 3) := by decide +kernel
theorem d2_18 : decode prog_47_method_1_code 18 = .ok (.return_, 1) := by decide +kernel
theorem pn_2 : plainName "com/example/bytewright/bytewright/classfile/Frame" = true := by first | (simp [plainName, overriddenIn]; done) | decide +kernel
theorem ef_2 (m : MethodId) (x0 : Addr) (x1 : Int32) : entryFrame m #[(.ref x0), (.int x1)] 2 = mkF m 0 #[.val (.ref x0), .val (.int x1)] [] := by first | (simp [entryFrame, mkF, argsToLocals, Value.category]; done) | rfl
def Q2 (Z : State) (a : Addr) (k : Int32) (nv : Addr) (h0 : Heap) (n0 : Nat) (v : Option Value) (h : Heap) (L : List Loc) : Prop := v = none ∧ Fr n0 L ∧ ∃ la : Addr, n0 ≤ la ∧ FP Z h a la (fun _ => 0) nv 0 (fun _ => 0) 0 0
set_option maxRecDepth 65536 in
set_option maxHeartbeats 40000000 in
theorem rm2 (l : Launch) (Z : State) (a0 : Array Value) (hw : ∀ d ∈ tables_1, d.before a0 Z = true) (ws : List Jvm.Cond) (a : Addr) (k : Int32) (nv : Addr) (h0 : Heap) (n0 : Nat) (Z0 : n0 ≤ h0.size) (hk : k = 2) (E : Exa Z h0 a "com/example/bytewright/bytewright/classfile/Frame") (Fl : Fld Z h0 a "com/example/bytewright/bytewright/classfile/Frame" "locals" "[I" .null) (Fs : Fld Z h0 a "com/example/bytewright/bytewright/classfile/Frame" "stack" "[I" .null) (Fz : Fld Z h0 a "com/example/bytewright/bytewright/classfile/Frame" "stackSize" "I" (.int 0)) (Fw : Fld Z h0 a "com/example/bytewright/bytewright/classfile/Frame" "stackWords" "I" (.int 0)) (S : Sta Z h0 "com/example/bytewright/bytewright/classfile/Frame" "NO_VALUES" "[I" (.ref nv)) (An : Ary Z h0 nv .int 0 (fun _ => 0)) (ga : n0 ≤ a) (hnv : nv < n0) :
    MetFree l (⟨"com/example/bytewright/bytewright/classfile/Frame", "<init>", "(I)V"⟩ : MethodName) (head1 (Jvm.Cond.code (⟨"com/example/bytewright/bytewright/classfile/Frame", "<init>", "(I)V"⟩ : MethodName) prog_47_method_1_code 2 none :: ws) ({ frames := 1, cells := 1, slots := 2, locals := 14 } : Room)) (fun a_ U_ => a_ = #[(.ref a), (.int k)] ∧ Z.Warmed39 U_.vm ∧ U_.heap = h0) (fun _ _ _ _ _ => True) (fun _ U_ o_ V_ => ∃ v_ L_, o_ = .returned v_ ∧ Q2 Z a k nv h0 n0 v_ V_.heap L_ ∧ FrameEnd U_ o_ V_ L_ ({ frames := 1, cells := 1, slots := 2, locals := 14 } : Room).cells ({ frames := 1, cells := 1, slots := 2, locals := 14 } : Room).slots) := by
  refine MetFree.of_bodySF (plainFor_of_name pn_2) hisR ?_
  intro p e s m args below meth c s₁ Bd hml0 hP hK
  obtain ⟨rfl, hZ, hh⟩ := hP
  have hx := Bd.exec
  have hby := Bd.bytes
  have hml : c.maxLocals = 2 := hml0
  have hown : s.vm.findClass "com/example/bytewright/bytewright/classfile/Frame" = some m.cls := findClass_of_methodNamed Bd.named
  have hnm := (name_of_methodNamed Bd.named Bd.method).1
  have hlk : meth.locks = false := BodyLoose.notSynchronized Bd
  have hrt := Bd.returns
  have X0 : Stand p l e ({ frames := 1, cells := 1, slots := 2, locals := 14 } : Room) s m #[(.ref a), (.int k)] below meth c s₁ [] 0 0 := Stand.of_body Bd
  have e0 : s₁.heap = h0 := by rw [← hh, Bd.state]; rfl
  have N0 := Fr.nil n0
  show Go p.tables e below (PQ s below (Q2 Z a k nv h0 n0) 1 2) _
  refine Go.via (B := s₁.setTop (mkF m 0 #[.val (.ref a), .val (.int k)] [])) (fun t_ k_ => castTop (ef_2 m a k) k_) ?_
  subst hk
  refine Go.via (B := s₁.setTop (mkF m 1 #[.val (.ref a), .val (.int (2 : Int32))] [(.ref a)])) (fun t_ k_ => ?_) ?_
  · show Steps p.tables e below (s₁.setTop (mkF m 0 #[.val (.ref a), .val (.int (2 : Int32))] [])) t_
    refine XS.aloadN X0.here hx rfl (hb hby d2_0) rfl rfl ?_
    show Steps p.tables e below (s₁.setTop (mkF m 1 #[.val (.ref a), .val (.int (2 : Int32))] [(.ref a)])) t_
    exact k_
  obtain ⟨T4, X4, e4, st4⟩ := initO X0 hx hZ hown (hw _ (List.mem_of_getElem? (i := 10) rfl)) (hw _ (List.mem_of_getElem? (i := 11) rfl)) (hw _ (List.mem_of_getElem? (i := 12) rfl)) e0 (g := (mkF m 1 #[.val (.ref a), .val (.int (2 : Int32))] [(.ref a)])) rfl (by rw [hml]; rfl) rfl (hb hby d2_1) (by decide) (W := 0) (by show 2 * 0 + _ ≤ _; exact Nat.le_of_eq rfl) (by decide)
  refine Go.via st4 ?_
  show Go p.tables e below _ (T4.setTop (mkF m 4 #[.val (.ref a), .val (.int (2 : Int32))] []))
  refine Go.via (B := T4.setTop (mkF m 6 #[.val (.ref a), .val (.int (2 : Int32))] [(.int (2 : Int32)), (.ref a)])) (fun t_ k_ => ?_) ?_
  · show Steps p.tables e below (T4.setTop (mkF m 4 #[.val (.ref a), .val (.int (2 : Int32))] [])) t_
    refine XS.aloadN X4.here hx rfl (hb hby d2_4) rfl rfl ?_
    show Steps p.tables e below (T4.setTop (mkF m 5 #[.val (.ref a), .val (.int (2 : Int32))] [(.ref a)])) t_
    refine XS.iloadN X4.here hx rfl (hb hby d2_5) rfl ?_
    show Steps p.tables e below (T4.setTop (mkF m 6 #[.val (.ref a), .val (.int (2 : Int32))] [(.int (2 : Int32)), (.ref a)])) t_
    exact k_
  obtain ⟨T5, h5, k5, X5, e5, E5, A5, st5⟩ := newP X4 hx hZ (hw _ (List.mem_of_getElem? (i := 13) rfl)) e4 (g := (mkF m 6 #[.val (.ref a), .val (.int (2 : Int32))] [(.int (2 : Int32)), (.ref a)])) rfl (hb hby d2_6) rfl (by decide) (cap := 2) (by decide) (by decide) (by decide) (by decide)
  obtain ⟨b5, g5⟩ : ∃ z, z = h0.size := ⟨_, rfl⟩
  rw [← g5] at A5 st5
  have gb5 : n0 ≤ b5 := Nat.le_trans Z0 (Nat.le_of_eq g5.symm)
  have Z5 : n0 ≤ h5.size := Nat.le_trans Z0 E5.1
  refine Go.via st5 ?_
  show Go p.tables e below _ (T5.setTop (mkF m 8 #[.val (.ref a), .val (.int (2 : Int32))] [(.ref b5), (.ref a)]))
  have Bnew : Ary Z h5 b5 .int 2 (fun _ => 0) := Ary.new A5 (by decide) rfl rfl
  have nal : a ≠ b5 := Nat.ne_of_lt (Nat.lt_of_lt_of_le E.lt (Nat.le_of_eq g5.symm))
  have nan : a ≠ nv := Nat.ne_of_gt (Nat.lt_of_lt_of_le hnv ga)
  have nln : b5 ≠ nv := Nat.ne_of_gt (Nat.lt_of_lt_of_le hnv gb5)
  obtain ⟨T6, h6, X6, e6, W6, st6⟩ := putF X5 hx hZ hown (host := "") (Or.inl (hw _ (List.mem_of_getElem? (i := 14) rfl))) Via.refl e5 (Fl.ext E5) (E.ext E5) (Or.inl (hw _ (List.mem_of_getElem? (i := 15) rfl))) (hw _ (List.mem_of_getElem? (i := 5) rfl)) (ty := (.array .int)) (by decide) rfl rfl (g := (mkF m 8 #[.val (.ref a), .val (.int (2 : Int32))] [(.ref b5), (.ref a)])) rfl rfl (hb hby d2_8)
  have N6 := Fr.snoc X6 N0 ga
  have Z6 : n0 ≤ h6.size := Nat.le_trans Z5 (Keep.of_wr W6).1
  refine Go.via st6 ?_
  show Go p.tables e below _ (T6.setTop (mkF m 11 #[.val (.ref a), .val (.int (2 : Int32))] []))
  refine Go.via (B := T6.setTop (mkF m 12 #[.val (.ref a), .val (.int (2 : Int32))] [(.ref a)])) (fun t_ k_ => ?_) ?_
  · show Steps p.tables e below (T6.setTop (mkF m 11 #[.val (.ref a), .val (.int (2 : Int32))] [])) t_
    refine XS.aloadN X6.here hx rfl (hb hby d2_11) rfl rfl ?_
    show Steps p.tables e below (T6.setTop (mkF m 12 #[.val (.ref a), .val (.int (2 : Int32))] [(.ref a)])) t_
    exact k_
  obtain ⟨T7, X7, e7, st7⟩ := getS2 X6 hx hZ hown (host := "") (Or.inl (hw _ (List.mem_of_getElem? (i := 16) rfl))) Via.refl e6 ((S.ext E5).wr W6) (g := (mkF m 12 #[.val (.ref a), .val (.int (2 : Int32))] [(.ref a)])) rfl (hb hby d2_12)
  refine Go.via st7 ?_
  show Go p.tables e below _ (T7.setTop (mkF m 15 #[.val (.ref a), .val (.int (2 : Int32))] [(.ref nv), (.ref a)]))
  obtain ⟨T8, h8, X8, e8, W8, st8⟩ := putF X7 hx hZ hown (host := "") (Or.inl (hw _ (List.mem_of_getElem? (i := 18) rfl))) Via.refl e7 ((Fs.ext E5).other W6 (Or.inr (slot_ne (Or.inl (hw _ (List.mem_of_getElem? (i := 19) rfl))) (Or.inl (hw _ (List.mem_of_getElem? (i := 15) rfl))) (by decide) (t := (.array .int)) (t' := (.array .int)) (by decide) (by decide)))) ((E.ext E5).wr W6) (Or.inl (hw _ (List.mem_of_getElem? (i := 19) rfl))) (hw _ (List.mem_of_getElem? (i := 5) rfl)) (ty := (.array .int)) (by decide) rfl rfl (g := (mkF m 15 #[.val (.ref a), .val (.int (2 : Int32))] [(.ref nv), (.ref a)])) rfl rfl (hb hby d2_15)
  have N8 := Fr.snoc X8 N6 ga
  have Z8 : n0 ≤ h8.size := Nat.le_trans Z6 (Keep.of_wr W8).1
  refine Go.via st8 ?_
  show Go p.tables e below _ (T8.setTop (mkF m 18 #[.val (.ref a), .val (.int (2 : Int32))] []))
  exact Go.leave X8 hlk (v := none) (fun _ => rfl) (fun fs hr => X8.returnOut hx hrt (hb hby d2_18) hr) (by decide) (by decide) (⟨rfl, N8, b5, gb5, by rw [e8]; exact ⟨((E.ext E5).wr W6).wr W8, ⟨((Fl.ext E5).same W6).other W8 (Or.inr (slot_ne (Or.inl (hw _ (List.mem_of_getElem? (i := 15) rfl))) (Or.inl (hw _ (List.mem_of_getElem? (i := 19) rfl))) (by decide) (t := (.array .int)) (t' := (.array .int)) (by decide) (by decide))), ((Fs.ext E5).other W6 (Or.inr (slot_ne (Or.inl (hw _ (List.mem_of_getElem? (i := 19) rfl))) (Or.inl (hw _ (List.mem_of_getElem? (i := 15) rfl))) (by decide) (t := (.array .int)) (t' := (.array .int)) (by decide) (by decide)))).same W8, ((Fz.ext E5).other W6 (Or.inr (slot_ne (Or.inl (hw _ (List.mem_of_getElem? (i := 35) rfl))) (Or.inl (hw _ (List.mem_of_getElem? (i := 15) rfl))) (by decide) (t := .int) (t' := (.array .int)) (by decide) (by decide)))).other W8 (Or.inr (slot_ne (Or.inl (hw _ (List.mem_of_getElem? (i := 35) rfl))) (Or.inl (hw _ (List.mem_of_getElem? (i := 19) rfl))) (by decide) (t := .int) (t' := (.array .int)) (by decide) (by decide))), ((Fw.ext E5).other W6 (Or.inr (slot_ne (Or.inl (hw _ (List.mem_of_getElem? (i := 52) rfl))) (Or.inl (hw _ (List.mem_of_getElem? (i := 15) rfl))) (by decide) (t := .int) (t' := (.array .int)) (by decide) (by decide)))).other W8 (Or.inr (slot_ne (Or.inl (hw _ (List.mem_of_getElem? (i := 52) rfl))) (Or.inl (hw _ (List.mem_of_getElem? (i := 19) rfl))) (by decide) (t := .int) (t' := (.array .int)) (by decide) (by decide)))⟩, (Bnew.other W6 (Ne.symm nal)).other W8 (Ne.symm nal), ((An.ext E5).other W6 (Ne.symm nan)).other W8 (Ne.symm nan), nal, nan, nln⟩⟩)
theorem d4_0 : decode prog_47_method_11_code 0 = .ok (.iload_n 2, 1) := by decide +kernel
theorem d4_1 : decode prog_47_method_11_code 1 = .ok (.invokestatic 66, 3) := by decide +kernel
theorem d4_4 : decode prog_47_method_11_code 4 = .ok (.istore_n 3, 1) := by decide +kernel
theorem d4_5 : decode prog_47_method_11_code 5 = .ok (.iload_n 1, 1) := by decide +kernel
theorem d4_6 : decode prog_47_method_11_code 6 = .ok (.iload_n 3, 1) := by decide +kernel
theorem d4_7 : decode prog_47_method_11_code 7 = .ok (.iadd, 1) := by decide +kernel
theorem d4_8 : decode prog_47_method_11_code 8 = .ok (.istore 4, 2) := by decide +kernel
theorem d4_10 : decode prog_47_method_11_code 10 = .ok (.iload 4, 2) := by decide +kernel
theorem d4_12 : decode prog_47_method_11_code 12 = .ok (.aload_n 0, 1) := by decide +kernel
theorem d4_13 : decode prog_47_method_11_code 13 = .ok (.getfield 7, 3) := by decide +kernel
theorem d4_16 : decode prog_47_method_11_code 16 = .ok (.arraylength, 1) := by decide +kernel
theorem d4_17 : decode prog_47_method_11_code 17 = .ok (.if_icmp .le 26, 3) := by decide +kernel
theorem d4_20 : decode prog_47_method_11_code 20 = .ok (.aload_n 0, 1) := by decide +kernel
theorem d4_21 : decode prog_47_method_11_code 21 = .ok (.aload_n 0, 1) := by decide +kernel
theorem d4_22 : decode prog_47_method_11_code 22 = .ok (.getfield 7, 3) := by decide +kernel
theorem d4_25 : decode prog_47_method_11_code 25 = .ok (.iload 4, 2) := by decide +kernel
theorem d4_27 : decode prog_47_method_11_code 27 = .ok (.aload_n 0, 1) := by decide +kernel
theorem d4_28 : decode prog_47_method_11_code 28 = .ok (.getfield 7, 3) := by decide +kernel
theorem d4_31 : decode prog_47_method_11_code 31 = .ok (.arraylength, 1) := by decide +kernel
theorem d4_32 : decode prog_47_method_11_code 32 = .ok (.iconst 2, 1) := by decide +kernel
theorem d4_33 : decode prog_47_method_11_code 33 = .ok (.imul, 1) := by decide +kernel
theorem d4_34 : decode prog_47_method_11_code 34 = .ok (.invokestatic 56, 3) := by decide +kernel
theorem d4_37 : decode prog_47_method_11_code 37 = .ok (.invokestatic 28, 3) := by decide +kernel
theorem d4_40 : decode prog_47_method_11_code 40 = .ok (.putfield 7, 3) := by decide +kernel
theorem d4_43 : decode prog_47_method_11_code 43 = .ok (.iload_n 1, 1) := by decide +kernel
theorem d4_44 : decode prog_47_method_11_code 44 = .ok (.ifCond .le 27, 3) := by decide +kernel
theorem d4_47 : decode prog_47_method_11_code 47 = .ok (.aload_n 0, 1) := by decide +kernel
theorem d4_48 : decode prog_47_method_11_code 48 = .ok (.getfield 7, 3) := by decide +kernel
theorem d4_51 : decode prog_47_method_11_code 51 = .ok (.iload_n 1, 1) := by decide +kernel
theorem d4_52 : decode prog_47_method_11_code 52 = .ok (.iconst 1, 1) := by decide +kernel
theorem d4_53 : decode prog_47_method_11_code 53 = .ok (.isub, 1) := by decide +kernel
theorem d4_54 : decode prog_47_method_11_code 54 = .ok (.iaload, 1) := by decide +kernel
theorem d4_55 : decode prog_47_method_11_code 55 = .ok (.invokestatic 66, 3) := by decide +kernel
theorem d4_58 : decode prog_47_method_11_code 58 = .ok (.iconst 2, 1) := by decide +kernel
theorem d4_59 : decode prog_47_method_11_code 59 = .ok (.if_icmp .ne 12, 3) := by decide +kernel
theorem d4_62 : decode prog_47_method_11_code 62 = .ok (.aload_n 0, 1) := by decide +kernel
theorem d4_63 : decode prog_47_method_11_code 63 = .ok (.getfield 7, 3) := by decide +kernel
theorem d4_66 : decode prog_47_method_11_code 66 = .ok (.iload_n 1, 1) := by decide +kernel
theorem d4_67 : decode prog_47_method_11_code 67 = .ok (.iconst 1, 1) := by decide +kernel
theorem d4_68 : decode prog_47_method_11_code 68 = .ok (.isub, 1) := by decide +kernel
theorem d4_69 : decode prog_47_method_11_code 69 = .ok (.iconst 0, 1) := by decide +kernel
theorem d4_70 : decode prog_47_method_11_code 70 = .ok (.iastore, 1) := by decide +kernel
theorem d4_71 : decode prog_47_method_11_code 71 = .ok (.aload_n 0, 1) := by decide +kernel
theorem d4_72 : decode prog_47_method_11_code 72 = .ok (.getfield 7, 3) := by decide +kernel
theorem d4_75 : decode prog_47_method_11_code 75 = .ok (.iload_n 1, 1) := by decide +kernel
theorem d4_76 : decode prog_47_method_11_code 76 = .ok (.iload_n 2, 1) := by decide +kernel
theorem d4_77 : decode prog_47_method_11_code 77 = .ok (.iastore, 1) := by decide +kernel
theorem d4_78 : decode prog_47_method_11_code 78 = .ok (.iload_n 3, 1) := by decide +kernel
theorem d4_79 : decode prog_47_method_11_code 79 = .ok (.iconst 2, 1) := by decide +kernel
theorem d4_80 : decode prog_47_method_11_code 80 = .ok (.if_icmp .ne 12, 3) := by decide +kernel
theorem d4_83 : decode prog_47_method_11_code 83 = .ok (.aload_n 0, 1) := by decide +kernel
theorem d4_84 : decode prog_47_method_11_code 84 = .ok (.getfield 7, 3) := by decide +kernel
theorem d4_87 : decode prog_47_method_11_code 87 = .ok (.iload_n 1, 1) := by decide +kernel
theorem d4_88 : decode prog_47_method_11_code 88 = .ok (.iconst 1, 1) := by decide +kernel
theorem d4_89 : decode prog_47_method_11_code 89 = .ok (.iadd, 1) := by decide +kernel
theorem d4_90 : decode prog_47_method_11_code 90 = .ok (.iconst 0, 1) := by decide +kernel
theorem d4_91 : decode prog_47_method_11_code 91 = .ok (.iastore, 1) := by decide +kernel
theorem d4_92 : decode prog_47_method_11_code 92 = .ok (.return_, 1) := by decide +kernel
theorem pn_4 : plainName "com/example/bytewright/bytewright/classfile/Frame" = true := by first | (simp [plainName, overriddenIn]; done) | decide +kernel
theorem ef_4 (m : MethodId) (x0 : Addr) (x1 : Int32) (x2 : Int32) : entryFrame m #[(.ref x0), (.int x1), (.int x2)] 5 = mkF m 0 #[.val (.ref x0), .val (.int x1), .val (.int x2), .unset, .unset] [] := by first | (simp [entryFrame, mkF, argsToLocals, Value.category]; done) | rfl
def Q4 (Z : State) (a : Addr) (i : Int32) (v : Int32) (la : Addr) (lf : Nat → Int32) (sa : Addr) (sn : Nat) (sf : Nat → Int32) (ss : Int32) (sw : Int32) (h0 : Heap) (n0 : Nat) (v' : Option Value) (h : Heap) (L : List Loc) : Prop := v' = none ∧ Fr n0 L ∧ ∃ lf' : Nat → Int32, FP Z h a la lf' sa sn sf ss sw ∧ lf' 0 = v ∧ lf' 1 = 0
set_option maxRecDepth 65536 in
set_option maxHeartbeats 40000000 in
theorem rm4 (l : Launch) (Z : State) (a0 : Array Value) (hw : ∀ d ∈ tables_1, d.before a0 Z = true) (ws : List Jvm.Cond) (a : Addr) (i : Int32) (v : Int32) (la : Addr) (lf : Nat → Int32) (sa : Addr) (sn : Nat) (sf : Nat → Int32) (ss : Int32) (sw : Int32) (h0 : Heap) (n0 : Nat) (Z0 : n0 ≤ h0.size) (hi : i = 0) (H : FP Z h0 a la lf sa sn sf ss sw) (ga : n0 ≤ a) (gl : n0 ≤ la) (h1 : lf 1 = 0) :
    MetFree l (⟨"com/example/bytewright/bytewright/classfile/Frame", "setLocal", "(II)V"⟩ : MethodName) (head1 (Jvm.Cond.code (⟨"com/example/bytewright/bytewright/classfile/Frame", "setLocal", "(II)V"⟩ : MethodName) prog_47_method_11_code 5 none :: ws) ({ frames := 1, cells := 0, slots := 0, locals := 12 } : Room)) (fun a_ U_ => a_ = #[(.ref a), (.int i), (.int v)] ∧ Z.Warmed39 U_.vm ∧ U_.heap = h0) (fun _ _ _ _ _ => True) (fun _ U_ o_ V_ => ∃ v_ L_, o_ = .returned v_ ∧ Q4 Z a i v la lf sa sn sf ss sw h0 n0 v_ V_.heap L_ ∧ FrameEnd U_ o_ V_ L_ ({ frames := 1, cells := 0, slots := 0, locals := 12 } : Room).cells ({ frames := 1, cells := 0, slots := 0, locals := 12 } : Room).slots) := by
  refine MetFree.of_bodySF (plainFor_of_name pn_4) hisR ?_
  intro p e s m args below meth c s₁ Bd hml0 hP hK
  obtain ⟨rfl, hZ, hh⟩ := hP
  have hx := Bd.exec
  have hby := Bd.bytes
  have hml : c.maxLocals = 5 := hml0
  have hown : s.vm.findClass "com/example/bytewright/bytewright/classfile/Frame" = some m.cls := findClass_of_methodNamed Bd.named
  have hnm := (name_of_methodNamed Bd.named Bd.method).1
  have hlk : meth.locks = false := BodyLoose.notSynchronized Bd
  have hrt := Bd.returns
  have X0 : Stand p l e ({ frames := 1, cells := 0, slots := 0, locals := 12 } : Room) s m #[(.ref a), (.int i), (.int v)] below meth c s₁ [] 0 0 := Stand.of_body Bd
  have e0 : s₁.heap = h0 := by rw [← hh, Bd.state]; rfl
  have N0 := Fr.nil n0
  show Go p.tables e below (PQ s below (Q4 Z a i v la lf sa sn sf ss sw h0 n0) 0 0) _
  refine Go.via (B := s₁.setTop (mkF m 0 #[.val (.ref a), .val (.int i), .val (.int v), .unset, .unset] [])) (fun t_ k_ => castTop (ef_4 m a i v) k_) ?_
  subst hi
  refine Go.via (B := s₁.setTop (mkF m 1 #[.val (.ref a), .val (.int (0 : Int32)), .val (.int v), .unset, .unset] [(.int v)])) (fun t_ k_ => ?_) ?_
  · show Steps p.tables e below (s₁.setTop (mkF m 0 #[.val (.ref a), .val (.int (0 : Int32)), .val (.int v), .unset, .unset] [])) t_
    refine XS.iloadN X0.here hx rfl (hb hby d4_0) rfl ?_
    show Steps p.tables e below (s₁.setTop (mkF m 1 #[.val (.ref a), .val (.int (0 : Int32)), .val (.int v), .unset, .unset] [(.int v)])) t_
    exact k_
  obtain ⟨_, _, ⟨T9, L9, k9, n9⟩, -, X9, ⟨Lc9, hQ9, l9, y9, z9⟩, st9⟩ := Jvm.LawKit.callS X0 hx (y := (⟨"com/example/bytewright/bytewright/classfile/VerificationType", "size", "(I)I"⟩ : MethodName)) hown (mvT hZ (hw _ (List.mem_of_getElem? (i := 25) rfl))) (mvT hZ (hw _ (List.mem_of_getElem? (i := 26) rfl))) (mvT hZ (hw _ (List.mem_of_getElem? (i := 27) rfl))) (mvT hZ (hw _ (List.mem_of_getElem? (i := 28) rfl))) (by decide) (backOf (W := 0) (rm5 l Z a0 hw [] v  h0 n0 Z0 ) hZ (hw _ (List.mem_of_getElem? (i := 28) rfl)) (hw _ (List.mem_of_getElem? (i := 27) rfl)) (by decide) (by decide)) (g := (mkF m 1 #[.val (.ref a), .val (.int (0 : Int32)), .val (.int v), .unset, .unset] [(.int v)])) rfl (by rw [hml]; rfl) (argsL := [(.int v)]) (rest := []) (lenOf pd1 rfl) rfl (by show 2 * 0 + _ ≤ _; exact Nat.le_of_eq rfl) (hb hby d4_1) (fun _ _ => ⟨rfl, e0, (by decide : 0 + 0 ≤ _), (by decide : 0 + 0 ≤ _)⟩)
  dsimp only [Pt.U, Pt.locs, Pt.cells, Pt.slots] at X9 l9 y9 z9 st9 hQ9
  subst l9 y9 z9
  obtain ⟨rfl, N9q, e9⟩ := hQ9
  have N9 := Fr.app N0 N9q
  refine Go.via st9 ?_
  show Go p.tables e below _ (T9.setTop (mkF m 4 #[.val (.ref a), .val (.int (0 : Int32)), .val (.int v), .unset, .unset] [(.int (F5_0 v))]))
  refine Go.via (B := T9.setTop (mkF m 13 #[.val (.ref a), .val (.int (0 : Int32)), .val (.int v), .val (.int (F5_0 v)), .val (.int ((0 : Int32) + (F5_0 v)))] [(.ref a), (.int ((0 : Int32) + (F5_0 v)))])) (fun t_ k_ => ?_) ?_
  · show Steps p.tables e below (T9.setTop (mkF m 4 #[.val (.ref a), .val (.int (0 : Int32)), .val (.int v), .unset, .unset] [(.int (F5_0 v))])) t_
    refine XS.istoreN X9.here hx rfl (hb hby d4_4) rfl (l' := #[.val (.ref a), .val (.int (0 : Int32)), .val (.int v), .val (.int (F5_0 v)), .unset]) rfl ?_
    show Steps p.tables e below (T9.setTop (mkF m 5 #[.val (.ref a), .val (.int (0 : Int32)), .val (.int v), .val (.int (F5_0 v)), .unset] [])) t_
    refine XS.iloadN X9.here hx rfl (hb hby d4_5) rfl ?_
    show Steps p.tables e below (T9.setTop (mkF m 6 #[.val (.ref a), .val (.int (0 : Int32)), .val (.int v), .val (.int (F5_0 v)), .unset] [(.int (0 : Int32))])) t_
    refine XS.iloadN X9.here hx rfl (hb hby d4_6) rfl ?_
    show Steps p.tables e below (T9.setTop (mkF m 7 #[.val (.ref a), .val (.int (0 : Int32)), .val (.int v), .val (.int (F5_0 v)), .unset] [(.int (F5_0 v)), (.int (0 : Int32))])) t_
    refine XS.iadd X9.here hx rfl (hb hby d4_7) rfl ?_
    show Steps p.tables e below (T9.setTop (mkF m 8 #[.val (.ref a), .val (.int (0 : Int32)), .val (.int v), .val (.int (F5_0 v)), .unset] [(.int ((0 : Int32) + (F5_0 v)))])) t_
    refine XS.istore X9.here hx rfl (hb hby d4_8) rfl (l' := #[.val (.ref a), .val (.int (0 : Int32)), .val (.int v), .val (.int (F5_0 v)), .val (.int ((0 : Int32) + (F5_0 v)))]) rfl ?_
    show Steps p.tables e below (T9.setTop (mkF m 10 #[.val (.ref a), .val (.int (0 : Int32)), .val (.int v), .val (.int (F5_0 v)), .val (.int ((0 : Int32) + (F5_0 v)))] [])) t_
    refine XS.iload X9.here hx rfl (hb hby d4_10) rfl ?_
    show Steps p.tables e below (T9.setTop (mkF m 12 #[.val (.ref a), .val (.int (0 : Int32)), .val (.int v), .val (.int (F5_0 v)), .val (.int ((0 : Int32) + (F5_0 v)))] [(.int ((0 : Int32) + (F5_0 v)))])) t_
    refine XS.aloadN X9.here hx rfl (hb hby d4_12) rfl rfl ?_
    show Steps p.tables e below (T9.setTop (mkF m 13 #[.val (.ref a), .val (.int (0 : Int32)), .val (.int v), .val (.int (F5_0 v)), .val (.int ((0 : Int32) + (F5_0 v)))] [(.ref a), (.int ((0 : Int32) + (F5_0 v)))])) t_
    exact k_
  obtain ⟨T10, X10, e10, st10⟩ := getF X9 hx hZ hown (host := "") (Or.inl (hw _ (List.mem_of_getElem? (i := 14) rfl))) Via.refl e9 H.2.1.1 (g := (mkF m 13 #[.val (.ref a), .val (.int (0 : Int32)), .val (.int v), .val (.int (F5_0 v)), .val (.int ((0 : Int32) + (F5_0 v)))] [(.ref a), (.int ((0 : Int32) + (F5_0 v)))])) rfl rfl (hb hby d4_13)
  refine Go.via st10 ?_
  show Go p.tables e below _ (T10.setTop (mkF m 16 #[.val (.ref a), .val (.int (0 : Int32)), .val (.int v), .val (.int (F5_0 v)), .val (.int ((0 : Int32) + (F5_0 v)))] [(.ref la), (.int ((0 : Int32) + (F5_0 v)))]))
  refine Go.via (B := T10.setTop (mkF m 17 #[.val (.ref a), .val (.int (0 : Int32)), .val (.int v), .val (.int (F5_0 v)), .val (.int ((0 : Int32) + (F5_0 v)))] [(.int (2 : Int32)), (.int ((0 : Int32) + (F5_0 v)))])) (fun t_ k_ => alen X10 hx hZ e10 H.2.2.1 (g := (mkF m 16 #[.val (.ref a), .val (.int (0 : Int32)), .val (.int v), .val (.int (F5_0 v)), .val (.int ((0 : Int32) + (F5_0 v)))] [(.ref la), (.int ((0 : Int32) + (F5_0 v)))])) rfl rfl (hb hby d4_16) t_ k_) ?_
  have hsz : ¬ (2 : Int32) < (0 : Int32) + F5_0 v := by rcases own_size v with q | q <;> rw [q] <;> decide
  refine Go.via (B := T10.setTop (mkF m 43 #[.val (.ref a), .val (.int (0 : Int32)), .val (.int v), .val (.int (F5_0 v)), .val (.int ((0 : Int32) + (F5_0 v)))] [])) (fun t_ k_ => XS.icmpYes X10.here hx rfl (pc0 := 17) (pc' := 43) rfl (hb hby d4_17) rfl ((flt hsz).2.2.2) (by decide) (by decide) k_) ?_
  refine Go.via (B := T10.setTop (mkF m 44 #[.val (.ref a), .val (.int (0 : Int32)), .val (.int v), .val (.int (F5_0 v)), .val (.int ((0 : Int32) + (F5_0 v)))] [(.int (0 : Int32))])) (fun t_ k_ => ?_) ?_
  · show Steps p.tables e below (T10.setTop (mkF m 43 #[.val (.ref a), .val (.int (0 : Int32)), .val (.int v), .val (.int (F5_0 v)), .val (.int ((0 : Int32) + (F5_0 v)))] [])) t_
    refine XS.iloadN X10.here hx rfl (hb hby d4_43) rfl ?_
    show Steps p.tables e below (T10.setTop (mkF m 44 #[.val (.ref a), .val (.int (0 : Int32)), .val (.int v), .val (.int (F5_0 v)), .val (.int ((0 : Int32) + (F5_0 v)))] [(.int (0 : Int32))])) t_
    exact k_
  refine Go.via (B := T10.setTop (mkF m 71 #[.val (.ref a), .val (.int (0 : Int32)), .val (.int v), .val (.int (F5_0 v)), .val (.int ((0 : Int32) + (F5_0 v)))] [])) (fun t_ k_ => XS.ifYes X10.here hx rfl (pc0 := 44) (pc' := 71) rfl (hb hby d4_44) rfl (((if0 _ _).trans (flt (by decide : ¬ (0 : Int32) < (0 : Int32))).2.2.2)) (by decide) (by decide) k_) ?_
  refine Go.via (B := T10.setTop (mkF m 72 #[.val (.ref a), .val (.int (0 : Int32)), .val (.int v), .val (.int (F5_0 v)), .val (.int ((0 : Int32) + (F5_0 v)))] [(.ref a)])) (fun t_ k_ => ?_) ?_
  · show Steps p.tables e below (T10.setTop (mkF m 71 #[.val (.ref a), .val (.int (0 : Int32)), .val (.int v), .val (.int (F5_0 v)), .val (.int ((0 : Int32) + (F5_0 v)))] [])) t_
    refine XS.aloadN X10.here hx rfl (hb hby d4_71) rfl rfl ?_
    show Steps p.tables e below (T10.setTop (mkF m 72 #[.val (.ref a), .val (.int (0 : Int32)), .val (.int v), .val (.int (F5_0 v)), .val (.int ((0 : Int32) + (F5_0 v)))] [(.ref a)])) t_
    exact k_
  obtain ⟨T11, X11, e11, st11⟩ := getF X10 hx hZ hown (host := "") (Or.inl (hw _ (List.mem_of_getElem? (i := 14) rfl))) Via.refl e10 H.2.1.1 (g := (mkF m 72 #[.val (.ref a), .val (.int (0 : Int32)), .val (.int v), .val (.int (F5_0 v)), .val (.int ((0 : Int32) + (F5_0 v)))] [(.ref a)])) rfl rfl (hb hby d4_72)
  refine Go.via st11 ?_
  show Go p.tables e below _ (T11.setTop (mkF m 75 #[.val (.ref a), .val (.int (0 : Int32)), .val (.int v), .val (.int (F5_0 v)), .val (.int ((0 : Int32) + (F5_0 v)))] [(.ref la)]))
  refine Go.via (B := T11.setTop (mkF m 77 #[.val (.ref a), .val (.int (0 : Int32)), .val (.int v), .val (.int (F5_0 v)), .val (.int ((0 : Int32) + (F5_0 v)))] [(.int v), (.int (0 : Int32)), (.ref la)])) (fun t_ k_ => ?_) ?_
  · show Steps p.tables e below (T11.setTop (mkF m 75 #[.val (.ref a), .val (.int (0 : Int32)), .val (.int v), .val (.int (F5_0 v)), .val (.int ((0 : Int32) + (F5_0 v)))] [(.ref la)])) t_
    refine XS.iloadN X11.here hx rfl (hb hby d4_75) rfl ?_
    show Steps p.tables e below (T11.setTop (mkF m 76 #[.val (.ref a), .val (.int (0 : Int32)), .val (.int v), .val (.int (F5_0 v)), .val (.int ((0 : Int32) + (F5_0 v)))] [(.int (0 : Int32)), (.ref la)])) t_
    refine XS.iloadN X11.here hx rfl (hb hby d4_76) rfl ?_
    show Steps p.tables e below (T11.setTop (mkF m 77 #[.val (.ref a), .val (.int (0 : Int32)), .val (.int v), .val (.int (F5_0 v)), .val (.int ((0 : Int32) + (F5_0 v)))] [(.int v), (.int (0 : Int32)), (.ref la)])) t_
    exact k_
  obtain ⟨T12, h12, L12, X12, e12, N12, W12, V12, st12⟩ := aputI X11 hx hZ e11 H.2.2.1 N9 gl (by decide) (by decide) (g := (mkF m 77 #[.val (.ref a), .val (.int (0 : Int32)), .val (.int v), .val (.int (F5_0 v)), .val (.int ((0 : Int32) + (F5_0 v)))] [(.int v), (.int (0 : Int32)), (.ref la)])) rfl rfl (hb hby d4_77)
  have H12 := H.storeL W12 V12
  have Z12 := H12.ge ga
  clear W12 V12
  refine Go.via st12 ?_
  show Go p.tables e below _ (T12.setTop (mkF m 78 #[.val (.ref a), .val (.int (0 : Int32)), .val (.int v), .val (.int (F5_0 v)), .val (.int ((0 : Int32) + (F5_0 v)))] []))
  refine Go.via (B := T12.setTop (mkF m 80 #[.val (.ref a), .val (.int (0 : Int32)), .val (.int v), .val (.int (F5_0 v)), .val (.int ((0 : Int32) + (F5_0 v)))] [(.int (2 : Int32)), (.int (F5_0 v))])) (fun t_ k_ => ?_) ?_
  · show Steps p.tables e below (T12.setTop (mkF m 78 #[.val (.ref a), .val (.int (0 : Int32)), .val (.int v), .val (.int (F5_0 v)), .val (.int ((0 : Int32) + (F5_0 v)))] [])) t_
    refine XS.iloadN X12.here hx rfl (hb hby d4_78) rfl ?_
    show Steps p.tables e below (T12.setTop (mkF m 79 #[.val (.ref a), .val (.int (0 : Int32)), .val (.int v), .val (.int (F5_0 v)), .val (.int ((0 : Int32) + (F5_0 v)))] [(.int (F5_0 v))])) t_
    refine XS.iconst X12.here hx rfl (hb hby d4_79) ?_
    show Steps p.tables e below (T12.setTop (mkF m 80 #[.val (.ref a), .val (.int (0 : Int32)), .val (.int v), .val (.int (F5_0 v)), .val (.int ((0 : Int32) + (F5_0 v)))] [(.int (2 : Int32)), (.int (F5_0 v))])) t_
    exact k_
  by_cases h2 : (F5_0 v) = (2 : Int32)
  · refine Go.via (B := T12.setTop (mkF m 83 #[.val (.ref a), .val (.int (0 : Int32)), .val (.int v), .val (.int (F5_0 v)), .val (.int ((0 : Int32) + (F5_0 v)))] [])) (fun t_ k_ => XS.icmpNo X12.here hx rfl (hb hby d4_80) rfl ((teq h2).2) k_) ?_
    refine Go.via (B := T12.setTop (mkF m 84 #[.val (.ref a), .val (.int (0 : Int32)), .val (.int v), .val (.int (F5_0 v)), .val (.int ((0 : Int32) + (F5_0 v)))] [(.ref a)])) (fun t_ k_ => ?_) ?_
    · show Steps p.tables e below (T12.setTop (mkF m 83 #[.val (.ref a), .val (.int (0 : Int32)), .val (.int v), .val (.int (F5_0 v)), .val (.int ((0 : Int32) + (F5_0 v)))] [])) t_
      refine XS.aloadN X12.here hx rfl (hb hby d4_83) rfl rfl ?_
      show Steps p.tables e below (T12.setTop (mkF m 84 #[.val (.ref a), .val (.int (0 : Int32)), .val (.int v), .val (.int (F5_0 v)), .val (.int ((0 : Int32) + (F5_0 v)))] [(.ref a)])) t_
      exact k_
    obtain ⟨T13, X13, e13, st13⟩ := getF X12 hx hZ hown (host := "") (Or.inl (hw _ (List.mem_of_getElem? (i := 14) rfl))) Via.refl e12 H12.2.1.1 (g := (mkF m 84 #[.val (.ref a), .val (.int (0 : Int32)), .val (.int v), .val (.int (F5_0 v)), .val (.int ((0 : Int32) + (F5_0 v)))] [(.ref a)])) rfl rfl (hb hby d4_84)
    refine Go.via st13 ?_
    show Go p.tables e below _ (T13.setTop (mkF m 87 #[.val (.ref a), .val (.int (0 : Int32)), .val (.int v), .val (.int (F5_0 v)), .val (.int ((0 : Int32) + (F5_0 v)))] [(.ref la)]))
    refine Go.via (B := T13.setTop (mkF m 91 #[.val (.ref a), .val (.int (0 : Int32)), .val (.int v), .val (.int (F5_0 v)), .val (.int ((0 : Int32) + (F5_0 v)))] [(.int (0 : Int32)), (.int ((0 : Int32) + (1 : Int32))), (.ref la)])) (fun t_ k_ => ?_) ?_
    · show Steps p.tables e below (T13.setTop (mkF m 87 #[.val (.ref a), .val (.int (0 : Int32)), .val (.int v), .val (.int (F5_0 v)), .val (.int ((0 : Int32) + (F5_0 v)))] [(.ref la)])) t_
      refine XS.iloadN X13.here hx rfl (hb hby d4_87) rfl ?_
      show Steps p.tables e below (T13.setTop (mkF m 88 #[.val (.ref a), .val (.int (0 : Int32)), .val (.int v), .val (.int (F5_0 v)), .val (.int ((0 : Int32) + (F5_0 v)))] [(.int (0 : Int32)), (.ref la)])) t_
      refine XS.iconst X13.here hx rfl (hb hby d4_88) ?_
      show Steps p.tables e below (T13.setTop (mkF m 89 #[.val (.ref a), .val (.int (0 : Int32)), .val (.int v), .val (.int (F5_0 v)), .val (.int ((0 : Int32) + (F5_0 v)))] [(.int (1 : Int32)), (.int (0 : Int32)), (.ref la)])) t_
      refine XS.iadd X13.here hx rfl (hb hby d4_89) rfl ?_
      show Steps p.tables e below (T13.setTop (mkF m 90 #[.val (.ref a), .val (.int (0 : Int32)), .val (.int v), .val (.int (F5_0 v)), .val (.int ((0 : Int32) + (F5_0 v)))] [(.int ((0 : Int32) + (1 : Int32))), (.ref la)])) t_
      refine XS.iconst X13.here hx rfl (hb hby d4_90) ?_
      show Steps p.tables e below (T13.setTop (mkF m 91 #[.val (.ref a), .val (.int (0 : Int32)), .val (.int v), .val (.int (F5_0 v)), .val (.int ((0 : Int32) + (F5_0 v)))] [(.int (0 : Int32)), (.int ((0 : Int32) + (1 : Int32))), (.ref la)])) t_
      exact k_
    obtain ⟨T14, h14, L14, X14, e14, N14, W14, V14, st14⟩ := aputI X13 hx hZ e13 H12.2.2.1 N12 gl (by decide) (by decide) (g := (mkF m 91 #[.val (.ref a), .val (.int (0 : Int32)), .val (.int v), .val (.int (F5_0 v)), .val (.int ((0 : Int32) + (F5_0 v)))] [(.int (0 : Int32)), (.int ((0 : Int32) + (1 : Int32))), (.ref la)])) rfl rfl (hb hby d4_91)
    have H14 := H12.storeL W14 V14
    have Z14 := H14.ge ga
    clear W14 V14
    refine Go.via st14 ?_
    show Go p.tables e below _ (T14.setTop (mkF m 92 #[.val (.ref a), .val (.int (0 : Int32)), .val (.int v), .val (.int (F5_0 v)), .val (.int ((0 : Int32) + (F5_0 v)))] []))
    exact Go.leave X14 hlk (v := none) (fun _ => rfl) (fun fs hr => X14.returnOut hx hrt (hb hby d4_92) hr) (by decide) (by decide) (⟨rfl, N14, _, FP.at e14 H14, rfl, rfl⟩)
  · refine Go.via (B := T12.setTop (mkF m 92 #[.val (.ref a), .val (.int (0 : Int32)), .val (.int v), .val (.int (F5_0 v)), .val (.int ((0 : Int32) + (F5_0 v)))] [])) (fun t_ k_ => XS.icmpYes X12.here hx rfl (pc0 := 80) (pc' := 92) rfl (hb hby d4_80) rfl ((feq h2).2) (by decide) (by decide) k_) ?_
    exact Go.leave X12 hlk (v := none) (fun _ => rfl) (fun fs hr => X12.returnOut hx hrt (hb hby d4_92) hr) (by decide) (by decide) (⟨rfl, N12, _, FP.at e12 H12, rfl, h1⟩)
theorem d6_0 : decode prog_47_method_16_code 0 = .ok (.aload_n 0, 1) := by decide +kernel
theorem d6_1 : decode prog_47_method_16_code 1 = .ok (.getfield 24, 3) := by decide +kernel
theorem d6_4 : decode prog_47_method_16_code 4 = .ok (.aload_n 0, 1) := by decide +kernel
theorem d6_5 : decode prog_47_method_16_code 5 = .ok (.getfield 16, 3) := by decide +kernel
theorem d6_8 : decode prog_47_method_16_code 8 = .ok (.arraylength, 1) := by decide +kernel
theorem d6_9 : decode prog_47_method_16_code 9 = .ok (.if_icmp .ne 24, 3) := by decide +kernel
theorem d6_12 : decode prog_47_method_16_code 12 = .ok (.aload_n 0, 1) := by decide +kernel
theorem d6_13 : decode prog_47_method_16_code 13 = .ok (.aload_n 0, 1) := by decide +kernel
theorem d6_14 : decode prog_47_method_16_code 14 = .ok (.getfield 16, 3) := by decide +kernel
theorem d6_17 : decode prog_47_method_16_code 17 = .ok (.iconst 4, 1) := by decide +kernel
theorem d6_18 : decode prog_47_method_16_code 18 = .ok (.aload_n 0, 1) := by decide +kernel
theorem d6_19 : decode prog_47_method_16_code 19 = .ok (.getfield 24, 3) := by decide +kernel
theorem d6_22 : decode prog_47_method_16_code 22 = .ok (.iconst 2, 1) := by decide +kernel
theorem d6_23 : decode prog_47_method_16_code 23 = .ok (.imul, 1) := by decide +kernel
theorem d6_24 : decode prog_47_method_16_code 24 = .ok (.invokestatic 56, 3) := by decide +kernel
theorem d6_27 : decode prog_47_method_16_code 27 = .ok (.invokestatic 28, 3) := by decide +kernel
theorem d6_30 : decode prog_47_method_16_code 30 = .ok (.putfield 16, 3) := by decide +kernel
theorem d6_33 : decode prog_47_method_16_code 33 = .ok (.aload_n 0, 1) := by decide +kernel
theorem d6_34 : decode prog_47_method_16_code 34 = .ok (.getfield 16, 3) := by decide +kernel
theorem d6_37 : decode prog_47_method_16_code 37 = .ok (.aload_n 0, 1) := by decide +kernel
theorem d6_38 : decode prog_47_method_16_code 38 = .ok (.dup, 1) := by decide +kernel
theorem d6_39 : decode prog_47_method_16_code 39 = .ok (.getfield 24, 3) := by decide +kernel
theorem d6_42 : decode prog_47_method_16_code 42 = .ok (.dup_x1, 1) := by decide +kernel
theorem d6_43 : decode prog_47_method_16_code 43 = .ok (.iconst 1, 1) := by decide +kernel
theorem d6_44 : decode prog_47_method_16_code 44 = .ok (.iadd, 1) := by decide +kernel
theorem d6_45 : decode prog_47_method_16_code 45 = .ok (.putfield 24, 3) := by decide +kernel
theorem d6_48 : decode prog_47_method_16_code 48 = .ok (.iload_n 1, 1) := by decide +kernel
theorem d6_49 : decode prog_47_method_16_code 49 = .ok (.iastore, 1) := by decide +kernel
theorem d6_50 : decode prog_47_method_16_code 50 = .ok (.aload_n 0, 1) := by decide +kernel
theorem d6_51 : decode prog_47_method_16_code 51 = .ok (.dup, 1) := by decide +kernel
theorem d6_52 : decode prog_47_method_16_code 52 = .ok (.getfield 34, 3) := by decide +kernel
theorem d6_55 : decode prog_47_method_16_code 55 = .ok (.iload_n 1, 1) := by decide +kernel
theorem d6_56 : decode prog_47_method_16_code 56 = .ok (.invokestatic 66, 3) := by decide +kernel
theorem d6_59 : decode prog_47_method_16_code 59 = .ok (.iadd, 1) := by decide +kernel
theorem d6_60 : decode prog_47_method_16_code 60 = .ok (.putfield 34, 3) := by decide +kernel
theorem d6_63 : decode prog_47_method_16_code 63 = .ok (.return_, 1) := by decide +kernel
theorem pn_6 : plainName "com/example/bytewright/bytewright/classfile/Frame" = true := by first | (simp [plainName, overriddenIn]; done) | decide +kernel
theorem ef_6 (m : MethodId) (x0 : Addr) (x1 : Int32) : entryFrame m #[(.ref x0), (.int x1)] 2 = mkF m 0 #[.val (.ref x0), .val (.int x1)] [] := by first | (simp [entryFrame, mkF, argsToLocals, Value.category]; done) | rfl
def Q6a (Z : State) (a : Addr) (v : Int32) (la : Addr) (lf : Nat → Int32) (sa : Addr) (sn : Nat) (sf : Nat → Int32) (ss : Int32) (sw : Int32) (h0 : Heap) (n0 : Nat) (v' : Option Value) (h : Heap) (L : List Loc) : Prop := v' = none ∧ Fr n0 L ∧ ∃ (sa' : Addr) (sf' : Nat → Int32) (sw' : Int32), n0 ≤ sa' ∧ FP Z h a la lf sa' 4 sf' 1 sw' ∧ sf' 0 = v
set_option maxRecDepth 65536 in
set_option maxHeartbeats 40000000 in
theorem rm6a (l : Launch) (Z : State) (a0 : Array Value) (hw : ∀ d ∈ tables_1, d.before a0 Z = true) (ws : List Jvm.Cond) (a : Addr) (v : Int32) (la : Addr) (lf : Nat → Int32) (sa : Addr) (sn : Nat) (sf : Nat → Int32) (ss : Int32) (sw : Int32) (h0 : Heap) (n0 : Nat) (Z0 : n0 ≤ h0.size) (hn : sn = 0) (hs : ss = 0) (H : FP Z h0 a la lf sa sn sf ss sw) (ga : n0 ≤ a) (gl : n0 ≤ la) :
    MetFree l (⟨"com/example/bytewright/bytewright/classfile/Frame", "push", "(I)V"⟩ : MethodName) (head1 (Jvm.Cond.code (⟨"com/example/bytewright/bytewright/classfile/Frame", "push", "(I)V"⟩ : MethodName) prog_47_method_16_code 2 none :: ws) ({ frames := 2, cells := 1, slots := 4, locals := 80 } : Room)) (fun a_ U_ => a_ = #[(.ref a), (.int v)] ∧ Z.Warmed39 U_.vm ∧ U_.heap = h0) (fun _ _ _ _ _ => True) (fun _ U_ o_ V_ => ∃ v_ L_, o_ = .returned v_ ∧ Q6a Z a v la lf sa sn sf ss sw h0 n0 v_ V_.heap L_ ∧ FrameEnd U_ o_ V_ L_ ({ frames := 2, cells := 1, slots := 4, locals := 80 } : Room).cells ({ frames := 2, cells := 1, slots := 4, locals := 80 } : Room).slots) := by
  refine MetFree.of_bodySF (plainFor_of_name pn_6) hisR ?_
  intro p e s m args below meth c s₁ Bd hml0 hP hK
  obtain ⟨rfl, hZ, hh⟩ := hP
  have hx := Bd.exec
  have hby := Bd.bytes
  have hml : c.maxLocals = 2 := hml0
  have hown : s.vm.findClass "com/example/bytewright/bytewright/classfile/Frame" = some m.cls := findClass_of_methodNamed Bd.named
  have hnm := (name_of_methodNamed Bd.named Bd.method).1
  have hlk : meth.locks = false := BodyLoose.notSynchronized Bd
  have hrt := Bd.returns
  have X0 : Stand p l e ({ frames := 2, cells := 1, slots := 4, locals := 80 } : Room) s m #[(.ref a), (.int v)] below meth c s₁ [] 0 0 := Stand.of_body Bd
  have e0 : s₁.heap = h0 := by rw [← hh, Bd.state]; rfl
  have N0 := Fr.nil n0
  show Go p.tables e below (PQ s below (Q6a Z a v la lf sa sn sf ss sw h0 n0) 1 4) _
  refine Go.via (B := s₁.setTop (mkF m 0 #[.val (.ref a), .val (.int v)] [])) (fun t_ k_ => castTop (ef_6 m a v) k_) ?_
  subst hn hs
  refine Go.via (B := s₁.setTop (mkF m 1 #[.val (.ref a), .val (.int v)] [(.ref a)])) (fun t_ k_ => ?_) ?_
  · show Steps p.tables e below (s₁.setTop (mkF m 0 #[.val (.ref a), .val (.int v)] [])) t_
    refine XS.aloadN X0.here hx rfl (hb hby d6_0) rfl rfl ?_
    show Steps p.tables e below (s₁.setTop (mkF m 1 #[.val (.ref a), .val (.int v)] [(.ref a)])) t_
    exact k_
  obtain ⟨T15, X15, e15, st15⟩ := getF X0 hx hZ hown (host := "") (Or.inl (hw _ (List.mem_of_getElem? (i := 34) rfl))) Via.refl e0 H.2.1.2.2.1 (g := (mkF m 1 #[.val (.ref a), .val (.int v)] [(.ref a)])) rfl rfl (hb hby d6_1)
  refine Go.via st15 ?_
  show Go p.tables e below _ (T15.setTop (mkF m 4 #[.val (.ref a), .val (.int v)] [(.int (0 : Int32))]))
  refine Go.via (B := T15.setTop (mkF m 5 #[.val (.ref a), .val (.int v)] [(.ref a), (.int (0 : Int32))])) (fun t_ k_ => ?_) ?_
  · show Steps p.tables e below (T15.setTop (mkF m 4 #[.val (.ref a), .val (.int v)] [(.int (0 : Int32))])) t_
    refine XS.aloadN X15.here hx rfl (hb hby d6_4) rfl rfl ?_
    show Steps p.tables e below (T15.setTop (mkF m 5 #[.val (.ref a), .val (.int v)] [(.ref a), (.int (0 : Int32))])) t_
    exact k_
  obtain ⟨T16, X16, e16, st16⟩ := getF X15 hx hZ hown (host := "") (Or.inl (hw _ (List.mem_of_getElem? (i := 18) rfl))) Via.refl e15 H.2.1.2.1 (g := (mkF m 5 #[.val (.ref a), .val (.int v)] [(.ref a), (.int (0 : Int32))])) rfl rfl (hb hby d6_5)
  refine Go.via st16 ?_
  show Go p.tables e below _ (T16.setTop (mkF m 8 #[.val (.ref a), .val (.int v)] [(.ref sa), (.int (0 : Int32))]))
  refine Go.via (B := T16.setTop (mkF m 9 #[.val (.ref a), .val (.int v)] [(.int (0 : Int32)), (.int (0 : Int32))])) (fun t_ k_ => alen X16 hx hZ e16 H.2.2.2.1 (g := (mkF m 8 #[.val (.ref a), .val (.int v)] [(.ref sa), (.int (0 : Int32))])) rfl rfl (hb hby d6_8) t_ k_) ?_
  refine Go.via (B := T16.setTop (mkF m 12 #[.val (.ref a), .val (.int v)] [])) (fun t_ k_ => XS.icmpNo X16.here hx rfl (hb hby d6_9) rfl ((teq (rfl : (0 : Int32) = (0 : Int32))).2) k_) ?_
  refine Go.via (B := T16.setTop (mkF m 14 #[.val (.ref a), .val (.int v)] [(.ref a), (.ref a)])) (fun t_ k_ => ?_) ?_
  · show Steps p.tables e below (T16.setTop (mkF m 12 #[.val (.ref a), .val (.int v)] [])) t_
    refine XS.aloadN X16.here hx rfl (hb hby d6_12) rfl rfl ?_
    show Steps p.tables e below (T16.setTop (mkF m 13 #[.val (.ref a), .val (.int v)] [(.ref a)])) t_
    refine XS.aloadN X16.here hx rfl (hb hby d6_13) rfl rfl ?_
    show Steps p.tables e below (T16.setTop (mkF m 14 #[.val (.ref a), .val (.int v)] [(.ref a), (.ref a)])) t_
    exact k_
  obtain ⟨T17, X17, e17, st17⟩ := getF X16 hx hZ hown (host := "") (Or.inl (hw _ (List.mem_of_getElem? (i := 18) rfl))) Via.refl e16 H.2.1.2.1 (g := (mkF m 14 #[.val (.ref a), .val (.int v)] [(.ref a), (.ref a)])) rfl rfl (hb hby d6_14)
  refine Go.via st17 ?_
  show Go p.tables e below _ (T17.setTop (mkF m 17 #[.val (.ref a), .val (.int v)] [(.ref sa), (.ref a)]))
  refine Go.via (B := T17.setTop (mkF m 19 #[.val (.ref a), .val (.int v)] [(.ref a), (.int (4 : Int32)), (.ref sa), (.ref a)])) (fun t_ k_ => ?_) ?_
  · show Steps p.tables e below (T17.setTop (mkF m 17 #[.val (.ref a), .val (.int v)] [(.ref sa), (.ref a)])) t_
    refine XS.iconst X17.here hx rfl (hb hby d6_17) ?_
    show Steps p.tables e below (T17.setTop (mkF m 18 #[.val (.ref a), .val (.int v)] [(.int (4 : Int32)), (.ref sa), (.ref a)])) t_
    refine XS.aloadN X17.here hx rfl (hb hby d6_18) rfl rfl ?_
    show Steps p.tables e below (T17.setTop (mkF m 19 #[.val (.ref a), .val (.int v)] [(.ref a), (.int (4 : Int32)), (.ref sa), (.ref a)])) t_
    exact k_
  obtain ⟨T18, X18, e18, st18⟩ := getF X17 hx hZ hown (host := "") (Or.inl (hw _ (List.mem_of_getElem? (i := 34) rfl))) Via.refl e17 H.2.1.2.2.1 (g := (mkF m 19 #[.val (.ref a), .val (.int v)] [(.ref a), (.int (4 : Int32)), (.ref sa), (.ref a)])) rfl rfl (hb hby d6_19)
  refine Go.via st18 ?_
  show Go p.tables e below _ (T18.setTop (mkF m 22 #[.val (.ref a), .val (.int v)] [(.int (0 : Int32)), (.int (4 : Int32)), (.ref sa), (.ref a)]))
  refine Go.via (B := T18.setTop (mkF m 24 #[.val (.ref a), .val (.int v)] [(.int ((0 : Int32) * (2 : Int32))), (.int (4 : Int32)), (.ref sa), (.ref a)])) (fun t_ k_ => ?_) ?_
  · show Steps p.tables e below (T18.setTop (mkF m 22 #[.val (.ref a), .val (.int v)] [(.int (0 : Int32)), (.int (4 : Int32)), (.ref sa), (.ref a)])) t_
    refine XS.iconst X18.here hx rfl (hb hby d6_22) ?_
    show Steps p.tables e below (T18.setTop (mkF m 23 #[.val (.ref a), .val (.int v)] [(.int (2 : Int32)), (.int (0 : Int32)), (.int (4 : Int32)), (.ref sa), (.ref a)])) t_
    refine XS.imul X18.here hx rfl (hb hby d6_23) rfl ?_
    show Steps p.tables e below (T18.setTop (mkF m 24 #[.val (.ref a), .val (.int v)] [(.int ((0 : Int32) * (2 : Int32))), (.int (4 : Int32)), (.ref sa), (.ref a)])) t_
    exact k_
  obtain ⟨_, _, ⟨T19, L19, k19, n19⟩, -, X19, ⟨Lc19, hQ19, l19, y19, z19⟩, st19⟩ := Jvm.LawKit.callS X18 hx (y := (⟨"java/lang/Math", "max", "(II)I"⟩ : MethodName)) hown (mvT hZ (hw _ (List.mem_of_getElem? (i := 36) rfl))) (mvT hZ (hw _ (List.mem_of_getElem? (i := 37) rfl))) (mvT hZ (hw _ (List.mem_of_getElem? (i := 38) rfl))) (mvT hZ (hw _ (List.mem_of_getElem? (i := 39) rfl))) (by decide) (backOf (W := 2) (rm7 l Z a0 hw [] (4 : Int32) ((0 : Int32) * (2 : Int32))  h0 n0 Z0 ) hZ (hw _ (List.mem_of_getElem? (i := 39) rfl)) (hw _ (List.mem_of_getElem? (i := 38) rfl)) (by decide) (by decide)) (g := (mkF m 24 #[.val (.ref a), .val (.int v)] [(.int ((0 : Int32) * (2 : Int32))), (.int (4 : Int32)), (.ref sa), (.ref a)])) rfl (by rw [hml]; rfl) (argsL := [(.int (4 : Int32)), (.int ((0 : Int32) * (2 : Int32)))]) (rest := [(.ref sa), (.ref a)]) (lenOf pd0 rfl) rfl (by show 2 * 0 + _ ≤ _; exact Nat.le_of_eq rfl) (hb hby d6_24) (fun _ _ => ⟨rfl, e18, (by decide : 0 + 0 ≤ _), (by decide : 0 + 0 ≤ _)⟩)
  dsimp only [Pt.U, Pt.locs, Pt.cells, Pt.slots] at X19 l19 y19 z19 st19 hQ19
  subst l19 y19 z19
  obtain ⟨rfl, N19q, e19⟩ := hQ19
  have N19 := Fr.app N0 N19q
  refine Go.via st19 ?_
  show Go p.tables e below _ (T19.setTop (mkF m 27 #[.val (.ref a), .val (.int v)] [(.int (F7_0 (4 : Int32) ((0 : Int32) * (2 : Int32)))), (.ref sa), (.ref a)]))
  have hmx : F7_0 (4 : Int32) ((0 : Int32) * (2 : Int32)) = 4 := by decide
  rw [hmx]
  show Go p.tables e below _ (T19.setTop (mkF m 27 #[.val (.ref a), .val (.int v)] [(.int (4 : Int32)), (.ref sa), (.ref a)]))
  obtain ⟨_, _, ⟨T20, L20, k20, n20⟩, -, X20, ⟨Lc20, hQ20, l20, y20, z20⟩, st20⟩ := Jvm.LawKit.callS X19 hx (y := (⟨"java/util/Arrays", "copyOf", "([II)[I"⟩ : MethodName)) hown (mvT hZ (hw _ (List.mem_of_getElem? (i := 40) rfl))) (mvT hZ (hw _ (List.mem_of_getElem? (i := 41) rfl))) (mvT hZ (hw _ (List.mem_of_getElem? (i := 42) rfl))) (mvT hZ (hw _ (List.mem_of_getElem? (i := 43) rfl))) (by decide) (backOf (W := 1) (rm8 l Z a0 hw [] sa (4 : Int32) 0 sf h0 n0 Z0 H.2.2.2.1 (by decide) (by decide) (by decide)) hZ (hw _ (List.mem_of_getElem? (i := 43) rfl)) (hw _ (List.mem_of_getElem? (i := 42) rfl)) (by decide) (by decide)) (g := (mkF m 27 #[.val (.ref a), .val (.int v)] [(.int (4 : Int32)), (.ref sa), (.ref a)])) rfl (by rw [hml]; rfl) (argsL := [(.ref sa), (.int (4 : Int32))]) (rest := [(.ref a)]) (lenOf pd2 rfl) rfl (by show 2 * 0 + _ ≤ _; exact Nat.le_of_eq rfl) (hb hby d6_27) (fun _ _ => ⟨rfl, e19, (by decide : 0 + 1 ≤ _), (by decide : 0 + 4 ≤ _)⟩)
  dsimp only [Pt.U, Pt.locs, Pt.cells, Pt.slots] at X20 l20 y20 z20 st20 hQ20
  subst l20 y20 z20
  obtain ⟨r20, rfl, N20q, gr20, gs20, K20, V20⟩ := hQ20
  have N20 := Fr.app N19 N20q
  refine Go.via st20 ?_
  show Go p.tables e below _ (T20.setTop (mkF m 30 #[.val (.ref a), .val (.int v)] [(.ref r20), (.ref a)]))
  have E1 := H.1.keep K20
  have Z20 := Nat.le_trans Z0 K20.1
  have nar : a ≠ r20 := Nat.ne_of_lt (Nat.lt_of_lt_of_le H.1.lt gs20)
  have nlr : la ≠ r20 := Nat.ne_of_lt (Nat.lt_of_lt_of_le H.2.2.1.lt gs20)
  have V1 : Ary Z T20.heap r20 .int 4 (fun i => if i < 0 then sf i else 0) := V20
  obtain ⟨T21, h21, X21, e21, W21, st21⟩ := putF X20 hx hZ hown (host := "") (Or.inl (hw _ (List.mem_of_getElem? (i := 18) rfl))) Via.refl rfl (H.2.1.2.1.keep K20 nin0) E1 (Or.inl (hw _ (List.mem_of_getElem? (i := 19) rfl))) (hw _ (List.mem_of_getElem? (i := 5) rfl)) (ty := (.array .int)) (by decide) rfl rfl (g := (mkF m 30 #[.val (.ref a), .val (.int v)] [(.ref r20), (.ref a)])) rfl rfl (hb hby d6_30)
  have N21 := Fr.snoc X21 N20 ga
  have Z21 : n0 ≤ h21.size := Nat.le_trans Z20 (Keep.of_wr W21).1
  refine Go.via st21 ?_
  show Go p.tables e below _ (T21.setTop (mkF m 33 #[.val (.ref a), .val (.int v)] []))
  have H21 : FP Z h21 a la lf r20 4 _ 0 sw := ⟨E1.wr W21, ⟨(H.2.1.1.keep K20 nin0).other W21 (Or.inr (slot_ne (Or.inl (hw _ (List.mem_of_getElem? (i := 15) rfl))) (Or.inl (hw _ (List.mem_of_getElem? (i := 19) rfl))) (by decide) (t := (.array .int)) (t' := (.array .int)) (by decide) (by decide))), (H.2.1.2.1.keep K20 nin0).same W21, (H.2.1.2.2.1.keep K20 nin0).other W21 (Or.inr (slot_ne (Or.inl (hw _ (List.mem_of_getElem? (i := 35) rfl))) (Or.inl (hw _ (List.mem_of_getElem? (i := 19) rfl))) (by decide) (t := .int) (t' := (.array .int)) (by decide) (by decide))), (H.2.1.2.2.2.keep K20 nin0).other W21 (Or.inr (slot_ne (Or.inl (hw _ (List.mem_of_getElem? (i := 52) rfl))) (Or.inl (hw _ (List.mem_of_getElem? (i := 19) rfl))) (by decide) (t := .int) (t' := (.array .int)) (by decide) (by decide)))⟩, (H.2.2.1.keep K20 nin0).other W21 (Ne.symm H.2.2.2.2.1), V1.other W21 (Ne.symm nar), H.2.2.2.2.1, nar, nlr⟩
  refine Go.via (B := T21.setTop (mkF m 34 #[.val (.ref a), .val (.int v)] [(.ref a)])) (fun t_ k_ => ?_) ?_
  · show Steps p.tables e below (T21.setTop (mkF m 33 #[.val (.ref a), .val (.int v)] [])) t_
    refine XS.aloadN X21.here hx rfl (hb hby d6_33) rfl rfl ?_
    show Steps p.tables e below (T21.setTop (mkF m 34 #[.val (.ref a), .val (.int v)] [(.ref a)])) t_
    exact k_
  obtain ⟨T22, X22, e22, st22⟩ := getF X21 hx hZ hown (host := "") (Or.inl (hw _ (List.mem_of_getElem? (i := 18) rfl))) Via.refl e21 H21.2.1.2.1 (g := (mkF m 34 #[.val (.ref a), .val (.int v)] [(.ref a)])) rfl rfl (hb hby d6_34)
  refine Go.via st22 ?_
  show Go p.tables e below _ (T22.setTop (mkF m 37 #[.val (.ref a), .val (.int v)] [(.ref r20)]))
  refine Go.via (B := T22.setTop (mkF m 39 #[.val (.ref a), .val (.int v)] [(.ref a), (.ref a), (.ref r20)])) (fun t_ k_ => ?_) ?_
  · show Steps p.tables e below (T22.setTop (mkF m 37 #[.val (.ref a), .val (.int v)] [(.ref r20)])) t_
    refine XS.aloadN X22.here hx rfl (hb hby d6_37) rfl rfl ?_
    show Steps p.tables e below (T22.setTop (mkF m 38 #[.val (.ref a), .val (.int v)] [(.ref a), (.ref r20)])) t_
    refine XS.dup X22.here hx rfl (hb hby d6_38) rfl rfl ?_
    show Steps p.tables e below (T22.setTop (mkF m 39 #[.val (.ref a), .val (.int v)] [(.ref a), (.ref a), (.ref r20)])) t_
    exact k_
  obtain ⟨T23, X23, e23, st23⟩ := getF X22 hx hZ hown (host := "") (Or.inl (hw _ (List.mem_of_getElem? (i := 34) rfl))) Via.refl e22 H21.2.1.2.2.1 (g := (mkF m 39 #[.val (.ref a), .val (.int v)] [(.ref a), (.ref a), (.ref r20)])) rfl rfl (hb hby d6_39)
  refine Go.via st23 ?_
  show Go p.tables e below _ (T23.setTop (mkF m 42 #[.val (.ref a), .val (.int v)] [(.int (0 : Int32)), (.ref a), (.ref r20)]))
  refine Go.via (B := T23.setTop (mkF m 45 #[.val (.ref a), .val (.int v)] [(.int ((0 : Int32) + (1 : Int32))), (.ref a), (.int (0 : Int32)), (.ref r20)])) (fun t_ k_ => ?_) ?_
  · show Steps p.tables e below (T23.setTop (mkF m 42 #[.val (.ref a), .val (.int v)] [(.int (0 : Int32)), (.ref a), (.ref r20)])) t_
    refine XS.dupX1 X23.here hx rfl (hb hby d6_42) rfl rfl rfl ?_
    show Steps p.tables e below (T23.setTop (mkF m 43 #[.val (.ref a), .val (.int v)] [(.int (0 : Int32)), (.ref a), (.int (0 : Int32)), (.ref r20)])) t_
    refine XS.iconst X23.here hx rfl (hb hby d6_43) ?_
    show Steps p.tables e below (T23.setTop (mkF m 44 #[.val (.ref a), .val (.int v)] [(.int (1 : Int32)), (.int (0 : Int32)), (.ref a), (.int (0 : Int32)), (.ref r20)])) t_
    refine XS.iadd X23.here hx rfl (hb hby d6_44) rfl ?_
    show Steps p.tables e below (T23.setTop (mkF m 45 #[.val (.ref a), .val (.int v)] [(.int ((0 : Int32) + (1 : Int32))), (.ref a), (.int (0 : Int32)), (.ref r20)])) t_
    exact k_
  obtain ⟨T24, h24, X24, e24, W24, st24⟩ := putF X23 hx hZ hown (host := "") (Or.inl (hw _ (List.mem_of_getElem? (i := 34) rfl))) Via.refl e23 H21.2.1.2.2.1 H21.1 (Or.inl (hw _ (List.mem_of_getElem? (i := 35) rfl))) (hw _ (List.mem_of_getElem? (i := 5) rfl)) (ty := .int) (by decide) rfl rfl (g := (mkF m 45 #[.val (.ref a), .val (.int v)] [(.int ((0 : Int32) + (1 : Int32))), (.ref a), (.int (0 : Int32)), (.ref r20)])) rfl rfl (hb hby d6_45)
  have N24 := Fr.snoc X24 N21 ga
  have Z24 : n0 ≤ h24.size := Nat.le_trans Z21 (Keep.of_wr W24).1
  refine Go.via st24 ?_
  show Go p.tables e below _ (T24.setTop (mkF m 48 #[.val (.ref a), .val (.int v)] [(.int (0 : Int32)), (.ref r20)]))
  have H24 := H21.put_stackSize hw W24
  refine Go.via (B := T24.setTop (mkF m 49 #[.val (.ref a), .val (.int v)] [(.int v), (.int (0 : Int32)), (.ref r20)])) (fun t_ k_ => ?_) ?_
  · show Steps p.tables e below (T24.setTop (mkF m 48 #[.val (.ref a), .val (.int v)] [(.int (0 : Int32)), (.ref r20)])) t_
    refine XS.iloadN X24.here hx rfl (hb hby d6_48) rfl ?_
    show Steps p.tables e below (T24.setTop (mkF m 49 #[.val (.ref a), .val (.int v)] [(.int v), (.int (0 : Int32)), (.ref r20)])) t_
    exact k_
  obtain ⟨T25, h25, L25, X25, e25, N25, W25, V25, st25⟩ := aputI X24 hx hZ e24 H24.2.2.2.1 N24 gr20 (by decide) (by decide) (g := (mkF m 49 #[.val (.ref a), .val (.int v)] [(.int v), (.int (0 : Int32)), (.ref r20)])) rfl rfl (hb hby d6_49)
  have H25 := H24.storeS W25 V25
  have Z25 := H25.ge ga
  clear W25 V25
  refine Go.via st25 ?_
  show Go p.tables e below _ (T25.setTop (mkF m 50 #[.val (.ref a), .val (.int v)] []))
  refine Go.via (B := T25.setTop (mkF m 52 #[.val (.ref a), .val (.int v)] [(.ref a), (.ref a)])) (fun t_ k_ => ?_) ?_
  · show Steps p.tables e below (T25.setTop (mkF m 50 #[.val (.ref a), .val (.int v)] [])) t_
    refine XS.aloadN X25.here hx rfl (hb hby d6_50) rfl rfl ?_
    show Steps p.tables e below (T25.setTop (mkF m 51 #[.val (.ref a), .val (.int v)] [(.ref a)])) t_
    refine XS.dup X25.here hx rfl (hb hby d6_51) rfl rfl ?_
    show Steps p.tables e below (T25.setTop (mkF m 52 #[.val (.ref a), .val (.int v)] [(.ref a), (.ref a)])) t_
    exact k_
  obtain ⟨T26, X26, e26, st26⟩ := getF X25 hx hZ hown (host := "") (Or.inl (hw _ (List.mem_of_getElem? (i := 51) rfl))) Via.refl e25 H25.2.1.2.2.2 (g := (mkF m 52 #[.val (.ref a), .val (.int v)] [(.ref a), (.ref a)])) rfl rfl (hb hby d6_52)
  refine Go.via st26 ?_
  show Go p.tables e below _ (T26.setTop (mkF m 55 #[.val (.ref a), .val (.int v)] [(.int sw), (.ref a)]))
  refine Go.via (B := T26.setTop (mkF m 56 #[.val (.ref a), .val (.int v)] [(.int v), (.int sw), (.ref a)])) (fun t_ k_ => ?_) ?_
  · show Steps p.tables e below (T26.setTop (mkF m 55 #[.val (.ref a), .val (.int v)] [(.int sw), (.ref a)])) t_
    refine XS.iloadN X26.here hx rfl (hb hby d6_55) rfl ?_
    show Steps p.tables e below (T26.setTop (mkF m 56 #[.val (.ref a), .val (.int v)] [(.int v), (.int sw), (.ref a)])) t_
    exact k_
  obtain ⟨_, _, ⟨T27, L27, k27, n27⟩, -, X27, ⟨Lc27, hQ27, l27, y27, z27⟩, st27⟩ := Jvm.LawKit.callS X26 hx (y := (⟨"com/example/bytewright/bytewright/classfile/VerificationType", "size", "(I)I"⟩ : MethodName)) hown (mvT hZ (hw _ (List.mem_of_getElem? (i := 25) rfl))) (mvT hZ (hw _ (List.mem_of_getElem? (i := 26) rfl))) (mvT hZ (hw _ (List.mem_of_getElem? (i := 27) rfl))) (mvT hZ (hw _ (List.mem_of_getElem? (i := 28) rfl))) (by decide) (backOf (W := 2) (rm5 l Z a0 hw [] v  h25 n0 Z25 ) hZ (hw _ (List.mem_of_getElem? (i := 28) rfl)) (hw _ (List.mem_of_getElem? (i := 27) rfl)) (by decide) (by decide)) (g := (mkF m 56 #[.val (.ref a), .val (.int v)] [(.int v), (.int sw), (.ref a)])) rfl (by rw [hml]; rfl) (argsL := [(.int v)]) (rest := [(.int sw), (.ref a)]) (lenOf pd1 rfl) rfl (by show 2 * 0 + _ ≤ _; exact Nat.le_of_eq rfl) (hb hby d6_56) (fun _ _ => ⟨rfl, e26, (by decide : 1 + 0 ≤ _), (by decide : 4 + 0 ≤ _)⟩)
  dsimp only [Pt.U, Pt.locs, Pt.cells, Pt.slots] at X27 l27 y27 z27 st27 hQ27
  subst l27 y27 z27
  obtain ⟨rfl, N27q, e27⟩ := hQ27
  have N27 := Fr.app N25 N27q
  refine Go.via st27 ?_
  show Go p.tables e below _ (T27.setTop (mkF m 59 #[.val (.ref a), .val (.int v)] [(.int (F5_0 v)), (.int sw), (.ref a)]))
  refine Go.via (B := T27.setTop (mkF m 60 #[.val (.ref a), .val (.int v)] [(.int (sw + (F5_0 v))), (.ref a)])) (fun t_ k_ => ?_) ?_
  · show Steps p.tables e below (T27.setTop (mkF m 59 #[.val (.ref a), .val (.int v)] [(.int (F5_0 v)), (.int sw), (.ref a)])) t_
    refine XS.iadd X27.here hx rfl (hb hby d6_59) rfl ?_
    show Steps p.tables e below (T27.setTop (mkF m 60 #[.val (.ref a), .val (.int v)] [(.int (sw + (F5_0 v))), (.ref a)])) t_
    exact k_
  obtain ⟨T28, h28, X28, e28, W28, st28⟩ := putF X27 hx hZ hown (host := "") (Or.inl (hw _ (List.mem_of_getElem? (i := 51) rfl))) Via.refl e27 H25.2.1.2.2.2 H25.1 (Or.inl (hw _ (List.mem_of_getElem? (i := 52) rfl))) (hw _ (List.mem_of_getElem? (i := 5) rfl)) (ty := .int) (by decide) rfl rfl (g := (mkF m 60 #[.val (.ref a), .val (.int v)] [(.int (sw + (F5_0 v))), (.ref a)])) rfl rfl (hb hby d6_60)
  have N28 := Fr.snoc X28 N27 ga
  have Z28 : n0 ≤ h28.size := Nat.le_trans Z25 (Keep.of_wr W28).1
  refine Go.via st28 ?_
  show Go p.tables e below _ (T28.setTop (mkF m 63 #[.val (.ref a), .val (.int v)] []))
  have H28 := H25.put_stackWords hw W28
  exact Go.leave X28 hlk (v := none) (fun _ => rfl) (fun fs hr => X28.returnOut hx hrt (hb hby d6_63) hr) (by decide) (by decide) (⟨rfl, N28, r20, _, _, gr20, FP.at e28 H28, rfl⟩)
def Q6b (Z : State) (a : Addr) (v : Int32) (la : Addr) (lf : Nat → Int32) (sa : Addr) (sn : Nat) (sf : Nat → Int32) (ss : Int32) (sw : Int32) (h0 : Heap) (n0 : Nat) (v' : Option Value) (h : Heap) (L : List Loc) : Prop := v' = none ∧ Fr n0 L ∧ ∃ (sf' : Nat → Int32) (sw' : Int32), FP Z h a la lf sa 4 sf' 2 sw' ∧ sf' 0 = sf 0 ∧ sf' 1 = v
set_option maxRecDepth 65536 in
set_option maxHeartbeats 40000000 in
theorem rm6b (l : Launch) (Z : State) (a0 : Array Value) (hw : ∀ d ∈ tables_1, d.before a0 Z = true) (ws : List Jvm.Cond) (a : Addr) (v : Int32) (la : Addr) (lf : Nat → Int32) (sa : Addr) (sn : Nat) (sf : Nat → Int32) (ss : Int32) (sw : Int32) (h0 : Heap) (n0 : Nat) (Z0 : n0 ≤ h0.size) (hn : sn = 4) (hs : ss = 1) (H : FP Z h0 a la lf sa sn sf ss sw) (ga : n0 ≤ a) (gl : n0 ≤ la) (gs : n0 ≤ sa) :
    MetFree l (⟨"com/example/bytewright/bytewright/classfile/Frame", "push", "(I)V"⟩ : MethodName) (head1 (Jvm.Cond.code (⟨"com/example/bytewright/bytewright/classfile/Frame", "push", "(I)V"⟩ : MethodName) prog_47_method_16_code 2 none :: ws) ({ frames := 1, cells := 0, slots := 0, locals := 40 } : Room)) (fun a_ U_ => a_ = #[(.ref a), (.int v)] ∧ Z.Warmed39 U_.vm ∧ U_.heap = h0) (fun _ _ _ _ _ => True) (fun _ U_ o_ V_ => ∃ v_ L_, o_ = .returned v_ ∧ Q6b Z a v la lf sa sn sf ss sw h0 n0 v_ V_.heap L_ ∧ FrameEnd U_ o_ V_ L_ ({ frames := 1, cells := 0, slots := 0, locals := 40 } : Room).cells ({ frames := 1, cells := 0, slots := 0, locals := 40 } : Room).slots) := by
  refine MetFree.of_bodySF (plainFor_of_name pn_6) hisR ?_
  intro p e s m args below meth c s₁ Bd hml0 hP hK
  obtain ⟨rfl, hZ, hh⟩ := hP
  have hx := Bd.exec
  have hby := Bd.bytes
  have hml : c.maxLocals = 2 := hml0
  have hown : s.vm.findClass "com/example/bytewright/bytewright/classfile/Frame" = some m.cls := findClass_of_methodNamed Bd.named
  have hnm := (name_of_methodNamed Bd.named Bd.method).1
  have hlk : meth.locks = false := BodyLoose.notSynchronized Bd
  have hrt := Bd.returns
  have X0 : Stand p l e ({ frames := 1, cells := 0, slots := 0, locals := 40 } : Room) s m #[(.ref a), (.int v)] below meth c s₁ [] 0 0 := Stand.of_body Bd
  have e0 : s₁.heap = h0 := by rw [← hh, Bd.state]; rfl
  have N0 := Fr.nil n0
  show Go p.tables e below (PQ s below (Q6b Z a v la lf sa sn sf ss sw h0 n0) 0 0) _
  refine Go.via (B := s₁.setTop (mkF m 0 #[.val (.ref a), .val (.int v)] [])) (fun t_ k_ => castTop (ef_6 m a v) k_) ?_
  subst hn hs
  refine Go.via (B := s₁.setTop (mkF m 1 #[.val (.ref a), .val (.int v)] [(.ref a)])) (fun t_ k_ => ?_) ?_
  · show Steps p.tables e below (s₁.setTop (mkF m 0 #[.val (.ref a), .val (.int v)] [])) t_
    refine XS.aloadN X0.here hx rfl (hb hby d6_0) rfl rfl ?_
    show Steps p.tables e below (s₁.setTop (mkF m 1 #[.val (.ref a), .val (.int v)] [(.ref a)])) t_
    exact k_
  obtain ⟨T29, X29, e29, st29⟩ := getF X0 hx hZ hown (host := "") (Or.inl (hw _ (List.mem_of_getElem? (i := 34) rfl))) Via.refl e0 H.2.1.2.2.1 (g := (mkF m 1 #[.val (.ref a), .val (.int v)] [(.ref a)])) rfl rfl (hb hby d6_1)
  refine Go.via st29 ?_
  show Go p.tables e below _ (T29.setTop (mkF m 4 #[.val (.ref a), .val (.int v)] [(.int (1 : Int32))]))
  refine Go.via (B := T29.setTop (mkF m 5 #[.val (.ref a), .val (.int v)] [(.ref a), (.int (1 : Int32))])) (fun t_ k_ => ?_) ?_
  · show Steps p.tables e below (T29.setTop (mkF m 4 #[.val (.ref a), .val (.int v)] [(.int (1 : Int32))])) t_
    refine XS.aloadN X29.here hx rfl (hb hby d6_4) rfl rfl ?_
    show Steps p.tables e below (T29.setTop (mkF m 5 #[.val (.ref a), .val (.int v)] [(.ref a), (.int (1 : Int32))])) t_
    exact k_
  obtain ⟨T30, X30, e30, st30⟩ := getF X29 hx hZ hown (host := "") (Or.inl (hw _ (List.mem_of_getElem? (i := 18) rfl))) Via.refl e29 H.2.1.2.1 (g := (mkF m 5 #[.val (.ref a), .val (.int v)] [(.ref a), (.int (1 : Int32))])) rfl rfl (hb hby d6_5)
  refine Go.via st30 ?_
  show Go p.tables e below _ (T30.setTop (mkF m 8 #[.val (.ref a), .val (.int v)] [(.ref sa), (.int (1 : Int32))]))
  refine Go.via (B := T30.setTop (mkF m 9 #[.val (.ref a), .val (.int v)] [(.int (4 : Int32)), (.int (1 : Int32))])) (fun t_ k_ => alen X30 hx hZ e30 H.2.2.2.1 (g := (mkF m 8 #[.val (.ref a), .val (.int v)] [(.ref sa), (.int (1 : Int32))])) rfl rfl (hb hby d6_8) t_ k_) ?_
  refine Go.via (B := T30.setTop (mkF m 33 #[.val (.ref a), .val (.int v)] [])) (fun t_ k_ => XS.icmpYes X30.here hx rfl (pc0 := 9) (pc' := 33) rfl (hb hby d6_9) rfl ((feq (by decide : ¬ (1 : Int32) = (4 : Int32))).2) (by decide) (by decide) k_) ?_
  refine Go.via (B := T30.setTop (mkF m 34 #[.val (.ref a), .val (.int v)] [(.ref a)])) (fun t_ k_ => ?_) ?_
  · show Steps p.tables e below (T30.setTop (mkF m 33 #[.val (.ref a), .val (.int v)] [])) t_
    refine XS.aloadN X30.here hx rfl (hb hby d6_33) rfl rfl ?_
    show Steps p.tables e below (T30.setTop (mkF m 34 #[.val (.ref a), .val (.int v)] [(.ref a)])) t_
    exact k_
  obtain ⟨T31, X31, e31, st31⟩ := getF X30 hx hZ hown (host := "") (Or.inl (hw _ (List.mem_of_getElem? (i := 18) rfl))) Via.refl e30 H.2.1.2.1 (g := (mkF m 34 #[.val (.ref a), .val (.int v)] [(.ref a)])) rfl rfl (hb hby d6_34)
  refine Go.via st31 ?_
  show Go p.tables e below _ (T31.setTop (mkF m 37 #[.val (.ref a), .val (.int v)] [(.ref sa)]))
  refine Go.via (B := T31.setTop (mkF m 39 #[.val (.ref a), .val (.int v)] [(.ref a), (.ref a), (.ref sa)])) (fun t_ k_ => ?_) ?_
  · show Steps p.tables e below (T31.setTop (mkF m 37 #[.val (.ref a), .val (.int v)] [(.ref sa)])) t_
    refine XS.aloadN X31.here hx rfl (hb hby d6_37) rfl rfl ?_
    show Steps p.tables e below (T31.setTop (mkF m 38 #[.val (.ref a), .val (.int v)] [(.ref a), (.ref sa)])) t_
    refine XS.dup X31.here hx rfl (hb hby d6_38) rfl rfl ?_
    show Steps p.tables e below (T31.setTop (mkF m 39 #[.val (.ref a), .val (.int v)] [(.ref a), (.ref a), (.ref sa)])) t_
    exact k_
  obtain ⟨T32, X32, e32, st32⟩ := getF X31 hx hZ hown (host := "") (Or.inl (hw _ (List.mem_of_getElem? (i := 34) rfl))) Via.refl e31 H.2.1.2.2.1 (g := (mkF m 39 #[.val (.ref a), .val (.int v)] [(.ref a), (.ref a), (.ref sa)])) rfl rfl (hb hby d6_39)
  refine Go.via st32 ?_
  show Go p.tables e below _ (T32.setTop (mkF m 42 #[.val (.ref a), .val (.int v)] [(.int (1 : Int32)), (.ref a), (.ref sa)]))
  refine Go.via (B := T32.setTop (mkF m 45 #[.val (.ref a), .val (.int v)] [(.int ((1 : Int32) + (1 : Int32))), (.ref a), (.int (1 : Int32)), (.ref sa)])) (fun t_ k_ => ?_) ?_
  · show Steps p.tables e below (T32.setTop (mkF m 42 #[.val (.ref a), .val (.int v)] [(.int (1 : Int32)), (.ref a), (.ref sa)])) t_
    refine XS.dupX1 X32.here hx rfl (hb hby d6_42) rfl rfl rfl ?_
    show Steps p.tables e below (T32.setTop (mkF m 43 #[.val (.ref a), .val (.int v)] [(.int (1 : Int32)), (.ref a), (.int (1 : Int32)), (.ref sa)])) t_
    refine XS.iconst X32.here hx rfl (hb hby d6_43) ?_
    show Steps p.tables e below (T32.setTop (mkF m 44 #[.val (.ref a), .val (.int v)] [(.int (1 : Int32)), (.int (1 : Int32)), (.ref a), (.int (1 : Int32)), (.ref sa)])) t_
    refine XS.iadd X32.here hx rfl (hb hby d6_44) rfl ?_
    show Steps p.tables e below (T32.setTop (mkF m 45 #[.val (.ref a), .val (.int v)] [(.int ((1 : Int32) + (1 : Int32))), (.ref a), (.int (1 : Int32)), (.ref sa)])) t_
    exact k_
  obtain ⟨T33, h33, X33, e33, W33, st33⟩ := putF X32 hx hZ hown (host := "") (Or.inl (hw _ (List.mem_of_getElem? (i := 34) rfl))) Via.refl e32 H.2.1.2.2.1 H.1 (Or.inl (hw _ (List.mem_of_getElem? (i := 35) rfl))) (hw _ (List.mem_of_getElem? (i := 5) rfl)) (ty := .int) (by decide) rfl rfl (g := (mkF m 45 #[.val (.ref a), .val (.int v)] [(.int ((1 : Int32) + (1 : Int32))), (.ref a), (.int (1 : Int32)), (.ref sa)])) rfl rfl (hb hby d6_45)
  have N33 := Fr.snoc X33 N0 ga
  have Z33 : n0 ≤ h33.size := Nat.le_trans Z0 (Keep.of_wr W33).1
  refine Go.via st33 ?_
  show Go p.tables e below _ (T33.setTop (mkF m 48 #[.val (.ref a), .val (.int v)] [(.int (1 : Int32)), (.ref sa)]))
  have H33 := H.put_stackSize hw W33
  refine Go.via (B := T33.setTop (mkF m 49 #[.val (.ref a), .val (.int v)] [(.int v), (.int (1 : Int32)), (.ref sa)])) (fun t_ k_ => ?_) ?_
  · show Steps p.tables e below (T33.setTop (mkF m 48 #[.val (.ref a), .val (.int v)] [(.int (1 : Int32)), (.ref sa)])) t_
    refine XS.iloadN X33.here hx rfl (hb hby d6_48) rfl ?_
    show Steps p.tables e below (T33.setTop (mkF m 49 #[.val (.ref a), .val (.int v)] [(.int v), (.int (1 : Int32)), (.ref sa)])) t_
    exact k_
  obtain ⟨T34, h34, L34, X34, e34, N34, W34, V34, st34⟩ := aputI X33 hx hZ e33 H33.2.2.2.1 N33 gs (by decide) (by decide) (g := (mkF m 49 #[.val (.ref a), .val (.int v)] [(.int v), (.int (1 : Int32)), (.ref sa)])) rfl rfl (hb hby d6_49)
  have H34 := H33.storeS W34 V34
  have Z34 := H34.ge ga
  clear W34 V34
  refine Go.via st34 ?_
  show Go p.tables e below _ (T34.setTop (mkF m 50 #[.val (.ref a), .val (.int v)] []))
  refine Go.via (B := T34.setTop (mkF m 52 #[.val (.ref a), .val (.int v)] [(.ref a), (.ref a)])) (fun t_ k_ => ?_) ?_
  · show Steps p.tables e below (T34.setTop (mkF m 50 #[.val (.ref a), .val (.int v)] [])) t_
    refine XS.aloadN X34.here hx rfl (hb hby d6_50) rfl rfl ?_
    show Steps p.tables e below (T34.setTop (mkF m 51 #[.val (.ref a), .val (.int v)] [(.ref a)])) t_
    refine XS.dup X34.here hx rfl (hb hby d6_51) rfl rfl ?_
    show Steps p.tables e below (T34.setTop (mkF m 52 #[.val (.ref a), .val (.int v)] [(.ref a), (.ref a)])) t_
    exact k_
  obtain ⟨T35, X35, e35, st35⟩ := getF X34 hx hZ hown (host := "") (Or.inl (hw _ (List.mem_of_getElem? (i := 51) rfl))) Via.refl e34 H34.2.1.2.2.2 (g := (mkF m 52 #[.val (.ref a), .val (.int v)] [(.ref a), (.ref a)])) rfl rfl (hb hby d6_52)
  refine Go.via st35 ?_
  show Go p.tables e below _ (T35.setTop (mkF m 55 #[.val (.ref a), .val (.int v)] [(.int sw), (.ref a)]))
  refine Go.via (B := T35.setTop (mkF m 56 #[.val (.ref a), .val (.int v)] [(.int v), (.int sw), (.ref a)])) (fun t_ k_ => ?_) ?_
  · show Steps p.tables e below (T35.setTop (mkF m 55 #[.val (.ref a), .val (.int v)] [(.int sw), (.ref a)])) t_
    refine XS.iloadN X35.here hx rfl (hb hby d6_55) rfl ?_
    show Steps p.tables e below (T35.setTop (mkF m 56 #[.val (.ref a), .val (.int v)] [(.int v), (.int sw), (.ref a)])) t_
    exact k_
  obtain ⟨_, _, ⟨T36, L36, k36, n36⟩, -, X36, ⟨Lc36, hQ36, l36, y36, z36⟩, st36⟩ := Jvm.LawKit.callS X35 hx (y := (⟨"com/example/bytewright/bytewright/classfile/VerificationType", "size", "(I)I"⟩ : MethodName)) hown (mvT hZ (hw _ (List.mem_of_getElem? (i := 25) rfl))) (mvT hZ (hw _ (List.mem_of_getElem? (i := 26) rfl))) (mvT hZ (hw _ (List.mem_of_getElem? (i := 27) rfl))) (mvT hZ (hw _ (List.mem_of_getElem? (i := 28) rfl))) (by decide) (backOf (W := 2) (rm5 l Z a0 hw [] v  h34 n0 Z34 ) hZ (hw _ (List.mem_of_getElem? (i := 28) rfl)) (hw _ (List.mem_of_getElem? (i := 27) rfl)) (by decide) (by decide)) (g := (mkF m 56 #[.val (.ref a), .val (.int v)] [(.int v), (.int sw), (.ref a)])) rfl (by rw [hml]; rfl) (argsL := [(.int v)]) (rest := [(.int sw), (.ref a)]) (lenOf pd1 rfl) rfl (by show 2 * 0 + _ ≤ _; exact Nat.le_of_eq rfl) (hb hby d6_56) (fun _ _ => ⟨rfl, e35, (by decide : 0 + 0 ≤ _), (by decide : 0 + 0 ≤ _)⟩)
  dsimp only [Pt.U, Pt.locs, Pt.cells, Pt.slots] at X36 l36 y36 z36 st36 hQ36
  subst l36 y36 z36
  obtain ⟨rfl, N36q, e36⟩ := hQ36
  have N36 := Fr.app N34 N36q
  refine Go.via st36 ?_
  show Go p.tables e below _ (T36.setTop (mkF m 59 #[.val (.ref a), .val (.int v)] [(.int (F5_0 v)), (.int sw), (.ref a)]))
  refine Go.via (B := T36.setTop (mkF m 60 #[.val (.ref a), .val (.int v)] [(.int (sw + (F5_0 v))), (.ref a)])) (fun t_ k_ => ?_) ?_
  · show Steps p.tables e below (T36.setTop (mkF m 59 #[.val (.ref a), .val (.int v)] [(.int (F5_0 v)), (.int sw), (.ref a)])) t_
    refine XS.iadd X36.here hx rfl (hb hby d6_59) rfl ?_
    show Steps p.tables e below (T36.setTop (mkF m 60 #[.val (.ref a), .val (.int v)] [(.int (sw + (F5_0 v))), (.ref a)])) t_
    exact k_
  obtain ⟨T37, h37, X37, e37, W37, st37⟩ := putF X36 hx hZ hown (host := "") (Or.inl (hw _ (List.mem_of_getElem? (i := 51) rfl))) Via.refl e36 H34.2.1.2.2.2 H34.1 (Or.inl (hw _ (List.mem_of_getElem? (i := 52) rfl))) (hw _ (List.mem_of_getElem? (i := 5) rfl)) (ty := .int) (by decide) rfl rfl (g := (mkF m 60 #[.val (.ref a), .val (.int v)] [(.int (sw + (F5_0 v))), (.ref a)])) rfl rfl (hb hby d6_60)
  have N37 := Fr.snoc X37 N36 ga
  have Z37 : n0 ≤ h37.size := Nat.le_trans Z34 (Keep.of_wr W37).1
  refine Go.via st37 ?_
  show Go p.tables e below _ (T37.setTop (mkF m 63 #[.val (.ref a), .val (.int v)] []))
  have H37 := H34.put_stackWords hw W37
  exact Go.leave X37 hlk (v := none) (fun _ => rfl) (fun fs hr => X37.returnOut hx hrt (hb hby d6_63) hr) (by decide) (by decide) (⟨rfl, N37, _, _, FP.at e37 H37, rfl, rfl⟩)
theorem d10_0 : decode prog_47_method_18_code 0 = .ok (.iconst 0, 1) := by decide +kernel
theorem d10_1 : decode prog_47_method_18_code 1 = .ok (.istore_n 3, 1) := by decide +kernel
theorem d10_2 : decode prog_47_method_18_code 2 = .ok (.iload_n 3, 1) := by decide +kernel
theorem d10_3 : decode prog_47_method_18_code 3 = .ok (.aload_n 0, 1) := by decide +kernel
theorem d10_4 : decode prog_47_method_18_code 4 = .ok (.getfield 7, 3) := by decide +kernel
theorem d10_7 : decode prog_47_method_18_code 7 = .ok (.arraylength, 1) := by decide +kernel
theorem d10_8 : decode prog_47_method_18_code 8 = .ok (.if_icmp .ge 26, 3) := by decide +kernel
theorem d10_11 : decode prog_47_method_18_code 11 = .ok (.aload_n 0, 1) := by decide +kernel
theorem d10_12 : decode prog_47_method_18_code 12 = .ok (.getfield 7, 3) := by decide +kernel
theorem d10_15 : decode prog_47_method_18_code 15 = .ok (.iload_n 3, 1) := by decide +kernel
theorem d10_16 : decode prog_47_method_18_code 16 = .ok (.iaload, 1) := by decide +kernel
theorem d10_17 : decode prog_47_method_18_code 17 = .ok (.iload_n 1, 1) := by decide +kernel
theorem d10_18 : decode prog_47_method_18_code 18 = .ok (.if_icmp .ne 10, 3) := by decide +kernel
theorem d10_21 : decode prog_47_method_18_code 21 = .ok (.aload_n 0, 1) := by decide +kernel
theorem d10_22 : decode prog_47_method_18_code 22 = .ok (.getfield 7, 3) := by decide +kernel
theorem d10_25 : decode prog_47_method_18_code 25 = .ok (.iload_n 3, 1) := by decide +kernel
theorem d10_26 : decode prog_47_method_18_code 26 = .ok (.iload_n 2, 1) := by decide +kernel
theorem d10_27 : decode prog_47_method_18_code 27 = .ok (.iastore, 1) := by decide +kernel
theorem d10_28 : decode prog_47_method_18_code 28 = .ok (.iinc 3 1, 3) := by decide +kernel
theorem d10_31 : decode prog_47_method_18_code 31 = .ok (.goto (-29), 3) := by decide +kernel
theorem d10_34 : decode prog_47_method_18_code 34 = .ok (.iconst 0, 1) := by decide +kernel
theorem d10_35 : decode prog_47_method_18_code 35 = .ok (.istore_n 3, 1) := by decide +kernel
theorem d10_36 : decode prog_47_method_18_code 36 = .ok (.iload_n 3, 1) := by decide +kernel
theorem d10_37 : decode prog_47_method_18_code 37 = .ok (.aload_n 0, 1) := by decide +kernel
theorem d10_38 : decode prog_47_method_18_code 38 = .ok (.getfield 24, 3) := by decide +kernel
theorem d10_41 : decode prog_47_method_18_code 41 = .ok (.if_icmp .ge 26, 3) := by decide +kernel
theorem d10_44 : decode prog_47_method_18_code 44 = .ok (.aload_n 0, 1) := by decide +kernel
theorem d10_45 : decode prog_47_method_18_code 45 = .ok (.getfield 16, 3) := by decide +kernel
theorem d10_48 : decode prog_47_method_18_code 48 = .ok (.iload_n 3, 1) := by decide +kernel
theorem d10_49 : decode prog_47_method_18_code 49 = .ok (.iaload, 1) := by decide +kernel
theorem d10_50 : decode prog_47_method_18_code 50 = .ok (.iload_n 1, 1) := by decide +kernel
theorem d10_51 : decode prog_47_method_18_code 51 = .ok (.if_icmp .ne 10, 3) := by decide +kernel
theorem d10_54 : decode prog_47_method_18_code 54 = .ok (.aload_n 0, 1) := by decide +kernel
theorem d10_55 : decode prog_47_method_18_code 55 = .ok (.getfield 16, 3) := by decide +kernel
theorem d10_58 : decode prog_47_method_18_code 58 = .ok (.iload_n 3, 1) := by decide +kernel
theorem d10_59 : decode prog_47_method_18_code 59 = .ok (.iload_n 2, 1) := by decide +kernel
theorem d10_60 : decode prog_47_method_18_code 60 = .ok (.iastore, 1) := by decide +kernel
theorem d10_61 : decode prog_47_method_18_code 61 = .ok (.iinc 3 1, 3) := by decide +kernel
theorem d10_64 : decode prog_47_method_18_code 64 = .ok (.goto (-28), 3) := by decide +kernel
theorem d10_67 : decode prog_47_method_18_code 67 = .ok (.return_, 1) := by decide +kernel
theorem pn_10 : plainName "com/example/bytewright/bytewright/classfile/Frame" = true := by first | (simp [plainName, overriddenIn]; done) | decide +kernel
theorem ef_10 (m : MethodId) (x0 : Addr) (x1 : Int32) (x2 : Int32) : entryFrame m #[(.ref x0), (.int x1), (.int x2)] 4 = mkF m 0 #[.val (.ref x0), .val (.int x1), .val (.int x2), .unset] [] := by first | (simp [entryFrame, mkF, argsToLocals, Value.category]; done) | rfl
def Q10 (Z : State) (a : Addr) (x : Int32) (y : Int32) (la : Addr) (lf : Nat → Int32) (sa : Addr) (sn : Nat) (sf : Nat → Int32) (ss : Int32) (sw : Int32) (h0 : Heap) (n0 : Nat) (v' : Option Value) (h : Heap) (L : List Loc) : Prop := v' = none ∧ Fr n0 L ∧ ∃ (lf' sf' : Nat → Int32), FP Z h a la lf' sa 4 sf' 2 sw ∧ lf' 0 = (if lf 0 = x then y else lf 0) ∧ lf' 1 = (if lf 1 = x then y else lf 1) ∧ sf' 0 = (if sf 0 = x then y else sf 0) ∧ sf' 1 = (if sf 1 = x then y else sf 1)
set_option maxRecDepth 65536 in
set_option maxHeartbeats 40000000 in
theorem rm10 (l : Launch) (Z : State) (a0 : Array Value) (hw : ∀ d ∈ tables_1, d.before a0 Z = true) (ws : List Jvm.Cond) (a : Addr) (x : Int32) (y : Int32) (la : Addr) (lf : Nat → Int32) (sa : Addr) (sn : Nat) (sf : Nat → Int32) (ss : Int32) (sw : Int32) (h0 : Heap) (n0 : Nat) (Z0 : n0 ≤ h0.size) (hn : sn = 4) (hs : ss = 2) (H : FP Z h0 a la lf sa sn sf ss sw) (ga : n0 ≤ a) (gl : n0 ≤ la) (gs : n0 ≤ sa) :
    MetFree l (⟨"com/example/bytewright/bytewright/classfile/Frame", "replace", "(II)V"⟩ : MethodName) (head1 (Jvm.Cond.code (⟨"com/example/bytewright/bytewright/classfile/Frame", "replace", "(II)V"⟩ : MethodName) prog_47_method_18_code 4 none :: ws) ({ frames := 0, cells := 0, slots := 0, locals := 0 } : Room)) (fun a_ U_ => a_ = #[(.ref a), (.int x), (.int y)] ∧ Z.Warmed39 U_.vm ∧ U_.heap = h0) (fun _ _ _ _ _ => True) (fun _ U_ o_ V_ => ∃ v_ L_, o_ = .returned v_ ∧ Q10 Z a x y la lf sa sn sf ss sw h0 n0 v_ V_.heap L_ ∧ FrameEnd U_ o_ V_ L_ ({ frames := 0, cells := 0, slots := 0, locals := 0 } : Room).cells ({ frames := 0, cells := 0, slots := 0, locals := 0 } : Room).slots) := by
  refine MetFree.of_bodySF (plainFor_of_name pn_10) hisR ?_
  intro p e s m args below meth c s₁ Bd hml0 hP hK
  obtain ⟨rfl, hZ, hh⟩ := hP
  have hx := Bd.exec
  have hby := Bd.bytes
  have hml : c.maxLocals = 4 := hml0
  have hown : s.vm.findClass "com/example/bytewright/bytewright/classfile/Frame" = some m.cls := findClass_of_methodNamed Bd.named
  have hnm := (name_of_methodNamed Bd.named Bd.method).1
  have hlk : meth.locks = false := BodyLoose.notSynchronized Bd
  have hrt := Bd.returns
  have X0 : Stand p l e ({ frames := 0, cells := 0, slots := 0, locals := 0 } : Room) s m #[(.ref a), (.int x), (.int y)] below meth c s₁ [] 0 0 := Stand.of_body Bd
  have e0 : s₁.heap = h0 := by rw [← hh, Bd.state]; rfl
  have N0 := Fr.nil n0
  show Go p.tables e below (PQ s below (Q10 Z a x y la lf sa sn sf ss sw h0 n0) 0 0) _
  refine Go.via (B := s₁.setTop (mkF m 0 #[.val (.ref a), .val (.int x), .val (.int y), .unset] [])) (fun t_ k_ => castTop (ef_10 m a x y) k_) ?_
  subst hn hs
  refine Go.via (B := s₁.setTop (mkF m 4 #[.val (.ref a), .val (.int x), .val (.int y), .val (.int (0 : Int32))] [(.ref a), (.int (0 : Int32))])) (fun t_ k_ => ?_) ?_
  · show Steps p.tables e below (s₁.setTop (mkF m 0 #[.val (.ref a), .val (.int x), .val (.int y), .unset] [])) t_
    refine XS.iconst X0.here hx rfl (hb hby d10_0) ?_
    show Steps p.tables e below (s₁.setTop (mkF m 1 #[.val (.ref a), .val (.int x), .val (.int y), .unset] [(.int (0 : Int32))])) t_
    refine XS.istoreN X0.here hx rfl (hb hby d10_1) rfl (l' := #[.val (.ref a), .val (.int x), .val (.int y), .val (.int (0 : Int32))]) rfl ?_
    show Steps p.tables e below (s₁.setTop (mkF m 2 #[.val (.ref a), .val (.int x), .val (.int y), .val (.int (0 : Int32))] [])) t_
    refine XS.iloadN X0.here hx rfl (hb hby d10_2) rfl ?_
    show Steps p.tables e below (s₁.setTop (mkF m 3 #[.val (.ref a), .val (.int x), .val (.int y), .val (.int (0 : Int32))] [(.int (0 : Int32))])) t_
    refine XS.aloadN X0.here hx rfl (hb hby d10_3) rfl rfl ?_
    show Steps p.tables e below (s₁.setTop (mkF m 4 #[.val (.ref a), .val (.int x), .val (.int y), .val (.int (0 : Int32))] [(.ref a), (.int (0 : Int32))])) t_
    exact k_
  obtain ⟨T38, X38, e38, st38⟩ := getF X0 hx hZ hown (host := "") (Or.inl (hw _ (List.mem_of_getElem? (i := 14) rfl))) Via.refl e0 H.2.1.1 (g := (mkF m 4 #[.val (.ref a), .val (.int x), .val (.int y), .val (.int (0 : Int32))] [(.ref a), (.int (0 : Int32))])) rfl rfl (hb hby d10_4)
  refine Go.via st38 ?_
  show Go p.tables e below _ (T38.setTop (mkF m 7 #[.val (.ref a), .val (.int x), .val (.int y), .val (.int (0 : Int32))] [(.ref la), (.int (0 : Int32))]))
  refine Go.via (B := T38.setTop (mkF m 8 #[.val (.ref a), .val (.int x), .val (.int y), .val (.int (0 : Int32))] [(.int (2 : Int32)), (.int (0 : Int32))])) (fun t_ k_ => alen X38 hx hZ e38 H.2.2.1 (g := (mkF m 7 #[.val (.ref a), .val (.int x), .val (.int y), .val (.int (0 : Int32))] [(.ref la), (.int (0 : Int32))])) rfl rfl (hb hby d10_7) t_ k_) ?_
  refine Go.via (B := T38.setTop (mkF m 11 #[.val (.ref a), .val (.int x), .val (.int y), .val (.int (0 : Int32))] [])) (fun t_ k_ => XS.icmpNo X38.here hx rfl (hb hby d10_8) rfl ((tlt (by decide : (0 : Int32) < (2 : Int32))).2.1) k_) ?_
  refine Go.via (B := T38.setTop (mkF m 12 #[.val (.ref a), .val (.int x), .val (.int y), .val (.int (0 : Int32))] [(.ref a)])) (fun t_ k_ => ?_) ?_
  · show Steps p.tables e below (T38.setTop (mkF m 11 #[.val (.ref a), .val (.int x), .val (.int y), .val (.int (0 : Int32))] [])) t_
    refine XS.aloadN X38.here hx rfl (hb hby d10_11) rfl rfl ?_
    show Steps p.tables e below (T38.setTop (mkF m 12 #[.val (.ref a), .val (.int x), .val (.int y), .val (.int (0 : Int32))] [(.ref a)])) t_
    exact k_
  obtain ⟨T39, X39, e39, st39⟩ := getF X38 hx hZ hown (host := "") (Or.inl (hw _ (List.mem_of_getElem? (i := 14) rfl))) Via.refl e38 H.2.1.1 (g := (mkF m 12 #[.val (.ref a), .val (.int x), .val (.int y), .val (.int (0 : Int32))] [(.ref a)])) rfl rfl (hb hby d10_12)
  refine Go.via st39 ?_
  show Go p.tables e below _ (T39.setTop (mkF m 15 #[.val (.ref a), .val (.int x), .val (.int y), .val (.int (0 : Int32))] [(.ref la)]))
  refine Go.via (B := T39.setTop (mkF m 16 #[.val (.ref a), .val (.int x), .val (.int y), .val (.int (0 : Int32))] [(.int (0 : Int32)), (.ref la)])) (fun t_ k_ => ?_) ?_
  · show Steps p.tables e below (T39.setTop (mkF m 15 #[.val (.ref a), .val (.int x), .val (.int y), .val (.int (0 : Int32))] [(.ref la)])) t_
    refine XS.iloadN X39.here hx rfl (hb hby d10_15) rfl ?_
    show Steps p.tables e below (T39.setTop (mkF m 16 #[.val (.ref a), .val (.int x), .val (.int y), .val (.int (0 : Int32))] [(.int (0 : Int32)), (.ref la)])) t_
    exact k_
  refine Go.via (B := T39.setTop (mkF m 17 #[.val (.ref a), .val (.int x), .val (.int y), .val (.int (0 : Int32))] [(.int (lf 0))])) (fun t_ k_ => agetI X39 hx hZ e39 H.2.2.1 (by decide) (by decide) (g := (mkF m 16 #[.val (.ref a), .val (.int x), .val (.int y), .val (.int (0 : Int32))] [(.int (0 : Int32)), (.ref la)])) rfl rfl (hb hby d10_16) t_ k_) ?_
  refine Go.via (B := T39.setTop (mkF m 18 #[.val (.ref a), .val (.int x), .val (.int y), .val (.int (0 : Int32))] [(.int x), (.int (lf 0))])) (fun t_ k_ => ?_) ?_
  · show Steps p.tables e below (T39.setTop (mkF m 17 #[.val (.ref a), .val (.int x), .val (.int y), .val (.int (0 : Int32))] [(.int (lf 0))])) t_
    refine XS.iloadN X39.here hx rfl (hb hby d10_17) rfl ?_
    show Steps p.tables e below (T39.setTop (mkF m 18 #[.val (.ref a), .val (.int x), .val (.int y), .val (.int (0 : Int32))] [(.int x), (.int (lf 0))])) t_
    exact k_
  by_cases hr00 : (lf 0) = x
  · refine Go.via (B := T39.setTop (mkF m 21 #[.val (.ref a), .val (.int x), .val (.int y), .val (.int (0 : Int32))] [])) (fun t_ k_ => XS.icmpNo X39.here hx rfl (hb hby d10_18) rfl ((teq hr00).2) k_) ?_
    refine Go.via (B := T39.setTop (mkF m 22 #[.val (.ref a), .val (.int x), .val (.int y), .val (.int (0 : Int32))] [(.ref a)])) (fun t_ k_ => ?_) ?_
    · show Steps p.tables e below (T39.setTop (mkF m 21 #[.val (.ref a), .val (.int x), .val (.int y), .val (.int (0 : Int32))] [])) t_
      refine XS.aloadN X39.here hx rfl (hb hby d10_21) rfl rfl ?_
      show Steps p.tables e below (T39.setTop (mkF m 22 #[.val (.ref a), .val (.int x), .val (.int y), .val (.int (0 : Int32))] [(.ref a)])) t_
      exact k_
    obtain ⟨T40, X40, e40, st40⟩ := getF X39 hx hZ hown (host := "") (Or.inl (hw _ (List.mem_of_getElem? (i := 14) rfl))) Via.refl e39 H.2.1.1 (g := (mkF m 22 #[.val (.ref a), .val (.int x), .val (.int y), .val (.int (0 : Int32))] [(.ref a)])) rfl rfl (hb hby d10_22)
    refine Go.via st40 ?_
    show Go p.tables e below _ (T40.setTop (mkF m 25 #[.val (.ref a), .val (.int x), .val (.int y), .val (.int (0 : Int32))] [(.ref la)]))
    refine Go.via (B := T40.setTop (mkF m 27 #[.val (.ref a), .val (.int x), .val (.int y), .val (.int (0 : Int32))] [(.int y), (.int (0 : Int32)), (.ref la)])) (fun t_ k_ => ?_) ?_
    · show Steps p.tables e below (T40.setTop (mkF m 25 #[.val (.ref a), .val (.int x), .val (.int y), .val (.int (0 : Int32))] [(.ref la)])) t_
      refine XS.iloadN X40.here hx rfl (hb hby d10_25) rfl ?_
      show Steps p.tables e below (T40.setTop (mkF m 26 #[.val (.ref a), .val (.int x), .val (.int y), .val (.int (0 : Int32))] [(.int (0 : Int32)), (.ref la)])) t_
      refine XS.iloadN X40.here hx rfl (hb hby d10_26) rfl ?_
      show Steps p.tables e below (T40.setTop (mkF m 27 #[.val (.ref a), .val (.int x), .val (.int y), .val (.int (0 : Int32))] [(.int y), (.int (0 : Int32)), (.ref la)])) t_
      exact k_
    obtain ⟨T41, h41, L41, X41, e41, N41, W41, V41, st41⟩ := aputI X40 hx hZ e40 H.2.2.1 N0 gl (by decide) (by decide) (g := (mkF m 27 #[.val (.ref a), .val (.int x), .val (.int y), .val (.int (0 : Int32))] [(.int y), (.int (0 : Int32)), (.ref la)])) rfl rfl (hb hby d10_27)
    have H41 := H.storeL W41 V41
    have Z41 := H41.ge ga
    clear W41 V41
    refine Go.via st41 ?_
    show Go p.tables e below _ (T41.setTop (mkF m 28 #[.val (.ref a), .val (.int x), .val (.int y), .val (.int (0 : Int32))] []))
    refine Go.via (B := T41.setTop (mkF m 4 #[.val (.ref a), .val (.int x), .val (.int y), .val (.int ((0 : Int32) + (1 : Int32)))] [(.ref a), (.int ((0 : Int32) + (1 : Int32)))])) (fun t_ k_ => ?_) ?_
    · show Steps p.tables e below (T41.setTop (mkF m 28 #[.val (.ref a), .val (.int x), .val (.int y), .val (.int (0 : Int32))] [])) t_
      refine XS.iinc X41.here hx rfl (hb hby d10_28) rfl (l' := #[.val (.ref a), .val (.int x), .val (.int y), .val (.int ((0 : Int32) + (1 : Int32)))]) rfl ?_
      show Steps p.tables e below (T41.setTop (mkF m 31 #[.val (.ref a), .val (.int x), .val (.int y), .val (.int ((0 : Int32) + (1 : Int32)))] [])) t_
      refine XS.goto X41.here hx rfl (pc0 := 31) (pc' := 2) rfl (hb hby d10_31) (by decide) (by decide) ?_
      show Steps p.tables e below (T41.setTop (mkF m 2 #[.val (.ref a), .val (.int x), .val (.int y), .val (.int ((0 : Int32) + (1 : Int32)))] [])) t_
      refine XS.iloadN X41.here hx rfl (hb hby d10_2) rfl ?_
      show Steps p.tables e below (T41.setTop (mkF m 3 #[.val (.ref a), .val (.int x), .val (.int y), .val (.int ((0 : Int32) + (1 : Int32)))] [(.int ((0 : Int32) + (1 : Int32)))])) t_
      refine XS.aloadN X41.here hx rfl (hb hby d10_3) rfl rfl ?_
      show Steps p.tables e below (T41.setTop (mkF m 4 #[.val (.ref a), .val (.int x), .val (.int y), .val (.int ((0 : Int32) + (1 : Int32)))] [(.ref a), (.int ((0 : Int32) + (1 : Int32)))])) t_
      exact k_
    obtain ⟨T42, X42, e42, st42⟩ := getF X41 hx hZ hown (host := "") (Or.inl (hw _ (List.mem_of_getElem? (i := 14) rfl))) Via.refl e41 H41.2.1.1 (g := (mkF m 4 #[.val (.ref a), .val (.int x), .val (.int y), .val (.int ((0 : Int32) + (1 : Int32)))] [(.ref a), (.int ((0 : Int32) + (1 : Int32)))])) rfl rfl (hb hby d10_4)
    refine Go.via st42 ?_
    show Go p.tables e below _ (T42.setTop (mkF m 7 #[.val (.ref a), .val (.int x), .val (.int y), .val (.int ((0 : Int32) + (1 : Int32)))] [(.ref la), (.int ((0 : Int32) + (1 : Int32)))]))
    refine Go.via (B := T42.setTop (mkF m 8 #[.val (.ref a), .val (.int x), .val (.int y), .val (.int ((0 : Int32) + (1 : Int32)))] [(.int (2 : Int32)), (.int ((0 : Int32) + (1 : Int32)))])) (fun t_ k_ => alen X42 hx hZ e42 H41.2.2.1 (g := (mkF m 7 #[.val (.ref a), .val (.int x), .val (.int y), .val (.int ((0 : Int32) + (1 : Int32)))] [(.ref la), (.int ((0 : Int32) + (1 : Int32)))])) rfl rfl (hb hby d10_7) t_ k_) ?_
    refine Go.via (B := T42.setTop (mkF m 11 #[.val (.ref a), .val (.int x), .val (.int y), .val (.int ((0 : Int32) + (1 : Int32)))] [])) (fun t_ k_ => XS.icmpNo X42.here hx rfl (hb hby d10_8) rfl ((tlt (by decide : ((0 : Int32) + (1 : Int32)) < (2 : Int32))).2.1) k_) ?_
    refine Go.via (B := T42.setTop (mkF m 12 #[.val (.ref a), .val (.int x), .val (.int y), .val (.int ((0 : Int32) + (1 : Int32)))] [(.ref a)])) (fun t_ k_ => ?_) ?_
    · show Steps p.tables e below (T42.setTop (mkF m 11 #[.val (.ref a), .val (.int x), .val (.int y), .val (.int ((0 : Int32) + (1 : Int32)))] [])) t_
      refine XS.aloadN X42.here hx rfl (hb hby d10_11) rfl rfl ?_
      show Steps p.tables e below (T42.setTop (mkF m 12 #[.val (.ref a), .val (.int x), .val (.int y), .val (.int ((0 : Int32) + (1 : Int32)))] [(.ref a)])) t_
      exact k_
    obtain ⟨T43, X43, e43, st43⟩ := getF X42 hx hZ hown (host := "") (Or.inl (hw _ (List.mem_of_getElem? (i := 14) rfl))) Via.refl e42 H41.2.1.1 (g := (mkF m 12 #[.val (.ref a), .val (.int x), .val (.int y), .val (.int ((0 : Int32) + (1 : Int32)))] [(.ref a)])) rfl rfl (hb hby d10_12)
    refine Go.via st43 ?_
    show Go p.tables e below _ (T43.setTop (mkF m 15 #[.val (.ref a), .val (.int x), .val (.int y), .val (.int ((0 : Int32) + (1 : Int32)))] [(.ref la)]))
    refine Go.via (B := T43.setTop (mkF m 16 #[.val (.ref a), .val (.int x), .val (.int y), .val (.int ((0 : Int32) + (1 : Int32)))] [(.int ((0 : Int32) + (1 : Int32))), (.ref la)])) (fun t_ k_ => ?_) ?_
    · show Steps p.tables e below (T43.setTop (mkF m 15 #[.val (.ref a), .val (.int x), .val (.int y), .val (.int ((0 : Int32) + (1 : Int32)))] [(.ref la)])) t_
      refine XS.iloadN X43.here hx rfl (hb hby d10_15) rfl ?_
      show Steps p.tables e below (T43.setTop (mkF m 16 #[.val (.ref a), .val (.int x), .val (.int y), .val (.int ((0 : Int32) + (1 : Int32)))] [(.int ((0 : Int32) + (1 : Int32))), (.ref la)])) t_
      exact k_
    refine Go.via (B := T43.setTop (mkF m 17 #[.val (.ref a), .val (.int x), .val (.int y), .val (.int ((0 : Int32) + (1 : Int32)))] [(.int (lf 1))])) (fun t_ k_ => agetI X43 hx hZ e43 H41.2.2.1 (by decide) (by decide) (g := (mkF m 16 #[.val (.ref a), .val (.int x), .val (.int y), .val (.int ((0 : Int32) + (1 : Int32)))] [(.int ((0 : Int32) + (1 : Int32))), (.ref la)])) rfl rfl (hb hby d10_16) t_ k_) ?_
    refine Go.via (B := T43.setTop (mkF m 18 #[.val (.ref a), .val (.int x), .val (.int y), .val (.int ((0 : Int32) + (1 : Int32)))] [(.int x), (.int (lf 1))])) (fun t_ k_ => ?_) ?_
    · show Steps p.tables e below (T43.setTop (mkF m 17 #[.val (.ref a), .val (.int x), .val (.int y), .val (.int ((0 : Int32) + (1 : Int32)))] [(.int (lf 1))])) t_
      refine XS.iloadN X43.here hx rfl (hb hby d10_17) rfl ?_
      show Steps p.tables e below (T43.setTop (mkF m 18 #[.val (.ref a), .val (.int x), .val (.int y), .val (.int ((0 : Int32) + (1 : Int32)))] [(.int x), (.int (lf 1))])) t_
      exact k_
    by_cases hr01 : (lf 1) = x
    · refine Go.via (B := T43.setTop (mkF m 21 #[.val (.ref a), .val (.int x), .val (.int y), .val (.int ((0 : Int32) + (1 : Int32)))] [])) (fun t_ k_ => XS.icmpNo X43.here hx rfl (hb hby d10_18) rfl ((teq hr01).2) k_) ?_
      refine Go.via (B := T43.setTop (mkF m 22 #[.val (.ref a), .val (.int x), .val (.int y), .val (.int ((0 : Int32) + (1 : Int32)))] [(.ref a)])) (fun t_ k_ => ?_) ?_
      · show Steps p.tables e below (T43.setTop (mkF m 21 #[.val (.ref a), .val (.int x), .val (.int y), .val (.int ((0 : Int32) + (1 : Int32)))] [])) t_
        refine XS.aloadN X43.here hx rfl (hb hby d10_21) rfl rfl ?_
        show Steps p.tables e below (T43.setTop (mkF m 22 #[.val (.ref a), .val (.int x), .val (.int y), .val (.int ((0 : Int32) + (1 : Int32)))] [(.ref a)])) t_
        exact k_
      obtain ⟨T44, X44, e44, st44⟩ := getF X43 hx hZ hown (host := "") (Or.inl (hw _ (List.mem_of_getElem? (i := 14) rfl))) Via.refl e43 H41.2.1.1 (g := (mkF m 22 #[.val (.ref a), .val (.int x), .val (.int y), .val (.int ((0 : Int32) + (1 : Int32)))] [(.ref a)])) rfl rfl (hb hby d10_22)
      refine Go.via st44 ?_
      show Go p.tables e below _ (T44.setTop (mkF m 25 #[.val (.ref a), .val (.int x), .val (.int y), .val (.int ((0 : Int32) + (1 : Int32)))] [(.ref la)]))
      refine Go.via (B := T44.setTop (mkF m 27 #[.val (.ref a), .val (.int x), .val (.int y), .val (.int ((0 : Int32) + (1 : Int32)))] [(.int y), (.int ((0 : Int32) + (1 : Int32))), (.ref la)])) (fun t_ k_ => ?_) ?_
      · show Steps p.tables e below (T44.setTop (mkF m 25 #[.val (.ref a), .val (.int x), .val (.int y), .val (.int ((0 : Int32) + (1 : Int32)))] [(.ref la)])) t_
        refine XS.iloadN X44.here hx rfl (hb hby d10_25) rfl ?_
        show Steps p.tables e below (T44.setTop (mkF m 26 #[.val (.ref a), .val (.int x), .val (.int y), .val (.int ((0 : Int32) + (1 : Int32)))] [(.int ((0 : Int32) + (1 : Int32))), (.ref la)])) t_
        refine XS.iloadN X44.here hx rfl (hb hby d10_26) rfl ?_
        show Steps p.tables e below (T44.setTop (mkF m 27 #[.val (.ref a), .val (.int x), .val (.int y), .val (.int ((0 : Int32) + (1 : Int32)))] [(.int y), (.int ((0 : Int32) + (1 : Int32))), (.ref la)])) t_
        exact k_
      obtain ⟨T45, h45, L45, X45, e45, N45, W45, V45, st45⟩ := aputI X44 hx hZ e44 H41.2.2.1 N41 gl (by decide) (by decide) (g := (mkF m 27 #[.val (.ref a), .val (.int x), .val (.int y), .val (.int ((0 : Int32) + (1 : Int32)))] [(.int y), (.int ((0 : Int32) + (1 : Int32))), (.ref la)])) rfl rfl (hb hby d10_27)
      have H45 := H41.storeL W45 V45
      have Z45 := H45.ge ga
      clear W45 V45
      refine Go.via st45 ?_
      show Go p.tables e below _ (T45.setTop (mkF m 28 #[.val (.ref a), .val (.int x), .val (.int y), .val (.int ((0 : Int32) + (1 : Int32)))] []))
      refine Go.via (B := T45.setTop (mkF m 4 #[.val (.ref a), .val (.int x), .val (.int y), .val (.int (((0 : Int32) + (1 : Int32)) + (1 : Int32)))] [(.ref a), (.int (((0 : Int32) + (1 : Int32)) + (1 : Int32)))])) (fun t_ k_ => ?_) ?_
      · show Steps p.tables e below (T45.setTop (mkF m 28 #[.val (.ref a), .val (.int x), .val (.int y), .val (.int ((0 : Int32) + (1 : Int32)))] [])) t_
        refine XS.iinc X45.here hx rfl (hb hby d10_28) rfl (l' := #[.val (.ref a), .val (.int x), .val (.int y), .val (.int (((0 : Int32) + (1 : Int32)) + (1 : Int32)))]) rfl ?_
        show Steps p.tables e below (T45.setTop (mkF m 31 #[.val (.ref a), .val (.int x), .val (.int y), .val (.int (((0 : Int32) + (1 : Int32)) + (1 : Int32)))] [])) t_
        refine XS.goto X45.here hx rfl (pc0 := 31) (pc' := 2) rfl (hb hby d10_31) (by decide) (by decide) ?_
        show Steps p.tables e below (T45.setTop (mkF m 2 #[.val (.ref a), .val (.int x), .val (.int y), .val (.int (((0 : Int32) + (1 : Int32)) + (1 : Int32)))] [])) t_
        refine XS.iloadN X45.here hx rfl (hb hby d10_2) rfl ?_
        show Steps p.tables e below (T45.setTop (mkF m 3 #[.val (.ref a), .val (.int x), .val (.int y), .val (.int (((0 : Int32) + (1 : Int32)) + (1 : Int32)))] [(.int (((0 : Int32) + (1 : Int32)) + (1 : Int32)))])) t_
        refine XS.aloadN X45.here hx rfl (hb hby d10_3) rfl rfl ?_
        show Steps p.tables e below (T45.setTop (mkF m 4 #[.val (.ref a), .val (.int x), .val (.int y), .val (.int (((0 : Int32) + (1 : Int32)) + (1 : Int32)))] [(.ref a), (.int (((0 : Int32) + (1 : Int32)) + (1 : Int32)))])) t_
        exact k_
      obtain ⟨T46, X46, e46, st46⟩ := getF X45 hx hZ hown (host := "") (Or.inl (hw _ (List.mem_of_getElem? (i := 14) rfl))) Via.refl e45 H45.2.1.1 (g := (mkF m 4 #[.val (.ref a), .val (.int x), .val (.int y), .val (.int (((0 : Int32) + (1 : Int32)) + (1 : Int32)))] [(.ref a), (.int (((0 : Int32) + (1 : Int32)) + (1 : Int32)))])) rfl rfl (hb hby d10_4)
      refine Go.via st46 ?_
      show Go p.tables e below _ (T46.setTop (mkF m 7 #[.val (.ref a), .val (.int x), .val (.int y), .val (.int (((0 : Int32) + (1 : Int32)) + (1 : Int32)))] [(.ref la), (.int (((0 : Int32) + (1 : Int32)) + (1 : Int32)))]))
      refine Go.via (B := T46.setTop (mkF m 8 #[.val (.ref a), .val (.int x), .val (.int y), .val (.int (((0 : Int32) + (1 : Int32)) + (1 : Int32)))] [(.int (2 : Int32)), (.int (((0 : Int32) + (1 : Int32)) + (1 : Int32)))])) (fun t_ k_ => alen X46 hx hZ e46 H45.2.2.1 (g := (mkF m 7 #[.val (.ref a), .val (.int x), .val (.int y), .val (.int (((0 : Int32) + (1 : Int32)) + (1 : Int32)))] [(.ref la), (.int (((0 : Int32) + (1 : Int32)) + (1 : Int32)))])) rfl rfl (hb hby d10_7) t_ k_) ?_
      refine Go.via (B := T46.setTop (mkF m 34 #[.val (.ref a), .val (.int x), .val (.int y), .val (.int (((0 : Int32) + (1 : Int32)) + (1 : Int32)))] [])) (fun t_ k_ => XS.icmpYes X46.here hx rfl (pc0 := 8) (pc' := 34) rfl (hb hby d10_8) rfl ((flt (by decide : ¬ (((0 : Int32) + (1 : Int32)) + (1 : Int32)) < (2 : Int32))).2.1) (by decide) (by decide) k_) ?_
      refine Go.via (B := T46.setTop (mkF m 38 #[.val (.ref a), .val (.int x), .val (.int y), .val (.int (0 : Int32))] [(.ref a), (.int (0 : Int32))])) (fun t_ k_ => ?_) ?_
      · show Steps p.tables e below (T46.setTop (mkF m 34 #[.val (.ref a), .val (.int x), .val (.int y), .val (.int (((0 : Int32) + (1 : Int32)) + (1 : Int32)))] [])) t_
        refine XS.iconst X46.here hx rfl (hb hby d10_34) ?_
        show Steps p.tables e below (T46.setTop (mkF m 35 #[.val (.ref a), .val (.int x), .val (.int y), .val (.int (((0 : Int32) + (1 : Int32)) + (1 : Int32)))] [(.int (0 : Int32))])) t_
        refine XS.istoreN X46.here hx rfl (hb hby d10_35) rfl (l' := #[.val (.ref a), .val (.int x), .val (.int y), .val (.int (0 : Int32))]) rfl ?_
        show Steps p.tables e below (T46.setTop (mkF m 36 #[.val (.ref a), .val (.int x), .val (.int y), .val (.int (0 : Int32))] [])) t_
        refine XS.iloadN X46.here hx rfl (hb hby d10_36) rfl ?_
        show Steps p.tables e below (T46.setTop (mkF m 37 #[.val (.ref a), .val (.int x), .val (.int y), .val (.int (0 : Int32))] [(.int (0 : Int32))])) t_
        refine XS.aloadN X46.here hx rfl (hb hby d10_37) rfl rfl ?_
        show Steps p.tables e below (T46.setTop (mkF m 38 #[.val (.ref a), .val (.int x), .val (.int y), .val (.int (0 : Int32))] [(.ref a), (.int (0 : Int32))])) t_
        exact k_
      obtain ⟨T47, X47, e47, st47⟩ := getF X46 hx hZ hown (host := "") (Or.inl (hw _ (List.mem_of_getElem? (i := 34) rfl))) Via.refl e46 H45.2.1.2.2.1 (g := (mkF m 38 #[.val (.ref a), .val (.int x), .val (.int y), .val (.int (0 : Int32))] [(.ref a), (.int (0 : Int32))])) rfl rfl (hb hby d10_38)
      refine Go.via st47 ?_
      show Go p.tables e below _ (T47.setTop (mkF m 41 #[.val (.ref a), .val (.int x), .val (.int y), .val (.int (0 : Int32))] [(.int (2 : Int32)), (.int (0 : Int32))]))
      refine Go.via (B := T47.setTop (mkF m 44 #[.val (.ref a), .val (.int x), .val (.int y), .val (.int (0 : Int32))] [])) (fun t_ k_ => XS.icmpNo X47.here hx rfl (hb hby d10_41) rfl ((tlt (by decide : (0 : Int32) < (2 : Int32))).2.1) k_) ?_
      refine Go.via (B := T47.setTop (mkF m 45 #[.val (.ref a), .val (.int x), .val (.int y), .val (.int (0 : Int32))] [(.ref a)])) (fun t_ k_ => ?_) ?_
      · show Steps p.tables e below (T47.setTop (mkF m 44 #[.val (.ref a), .val (.int x), .val (.int y), .val (.int (0 : Int32))] [])) t_
        refine XS.aloadN X47.here hx rfl (hb hby d10_44) rfl rfl ?_
        show Steps p.tables e below (T47.setTop (mkF m 45 #[.val (.ref a), .val (.int x), .val (.int y), .val (.int (0 : Int32))] [(.ref a)])) t_
        exact k_
      obtain ⟨T48, X48, e48, st48⟩ := getF X47 hx hZ hown (host := "") (Or.inl (hw _ (List.mem_of_getElem? (i := 18) rfl))) Via.refl e47 H45.2.1.2.1 (g := (mkF m 45 #[.val (.ref a), .val (.int x), .val (.int y), .val (.int (0 : Int32))] [(.ref a)])) rfl rfl (hb hby d10_45)
      refine Go.via st48 ?_
      show Go p.tables e below _ (T48.setTop (mkF m 48 #[.val (.ref a), .val (.int x), .val (.int y), .val (.int (0 : Int32))] [(.ref sa)]))
      refine Go.via (B := T48.setTop (mkF m 49 #[.val (.ref a), .val (.int x), .val (.int y), .val (.int (0 : Int32))] [(.int (0 : Int32)), (.ref sa)])) (fun t_ k_ => ?_) ?_
      · show Steps p.tables e below (T48.setTop (mkF m 48 #[.val (.ref a), .val (.int x), .val (.int y), .val (.int (0 : Int32))] [(.ref sa)])) t_
        refine XS.iloadN X48.here hx rfl (hb hby d10_48) rfl ?_
        show Steps p.tables e below (T48.setTop (mkF m 49 #[.val (.ref a), .val (.int x), .val (.int y), .val (.int (0 : Int32))] [(.int (0 : Int32)), (.ref sa)])) t_
        exact k_
      refine Go.via (B := T48.setTop (mkF m 50 #[.val (.ref a), .val (.int x), .val (.int y), .val (.int (0 : Int32))] [(.int (sf 0))])) (fun t_ k_ => agetI X48 hx hZ e48 H45.2.2.2.1 (by decide) (by decide) (g := (mkF m 49 #[.val (.ref a), .val (.int x), .val (.int y), .val (.int (0 : Int32))] [(.int (0 : Int32)), (.ref sa)])) rfl rfl (hb hby d10_49) t_ k_) ?_
      refine Go.via (B := T48.setTop (mkF m 51 #[.val (.ref a), .val (.int x), .val (.int y), .val (.int (0 : Int32))] [(.int x), (.int (sf 0))])) (fun t_ k_ => ?_) ?_
      · show Steps p.tables e below (T48.setTop (mkF m 50 #[.val (.ref a), .val (.int x), .val (.int y), .val (.int (0 : Int32))] [(.int (sf 0))])) t_
        refine XS.iloadN X48.here hx rfl (hb hby d10_50) rfl ?_
        show Steps p.tables e below (T48.setTop (mkF m 51 #[.val (.ref a), .val (.int x), .val (.int y), .val (.int (0 : Int32))] [(.int x), (.int (sf 0))])) t_
        exact k_
      by_cases hr10 : (sf 0) = x
      · refine Go.via (B := T48.setTop (mkF m 54 #[.val (.ref a), .val (.int x), .val (.int y), .val (.int (0 : Int32))] [])) (fun t_ k_ => XS.icmpNo X48.here hx rfl (hb hby d10_51) rfl ((teq hr10).2) k_) ?_
        refine Go.via (B := T48.setTop (mkF m 55 #[.val (.ref a), .val (.int x), .val (.int y), .val (.int (0 : Int32))] [(.ref a)])) (fun t_ k_ => ?_) ?_
        · show Steps p.tables e below (T48.setTop (mkF m 54 #[.val (.ref a), .val (.int x), .val (.int y), .val (.int (0 : Int32))] [])) t_
          refine XS.aloadN X48.here hx rfl (hb hby d10_54) rfl rfl ?_
          show Steps p.tables e below (T48.setTop (mkF m 55 #[.val (.ref a), .val (.int x), .val (.int y), .val (.int (0 : Int32))] [(.ref a)])) t_
          exact k_
        obtain ⟨T49, X49, e49, st49⟩ := getF X48 hx hZ hown (host := "") (Or.inl (hw _ (List.mem_of_getElem? (i := 18) rfl))) Via.refl e48 H45.2.1.2.1 (g := (mkF m 55 #[.val (.ref a), .val (.int x), .val (.int y), .val (.int (0 : Int32))] [(.ref a)])) rfl rfl (hb hby d10_55)
        refine Go.via st49 ?_
        show Go p.tables e below _ (T49.setTop (mkF m 58 #[.val (.ref a), .val (.int x), .val (.int y), .val (.int (0 : Int32))] [(.ref sa)]))
        refine Go.via (B := T49.setTop (mkF m 60 #[.val (.ref a), .val (.int x), .val (.int y), .val (.int (0 : Int32))] [(.int y), (.int (0 : Int32)), (.ref sa)])) (fun t_ k_ => ?_) ?_
        · show Steps p.tables e below (T49.setTop (mkF m 58 #[.val (.ref a), .val (.int x), .val (.int y), .val (.int (0 : Int32))] [(.ref sa)])) t_
          refine XS.iloadN X49.here hx rfl (hb hby d10_58) rfl ?_
          show Steps p.tables e below (T49.setTop (mkF m 59 #[.val (.ref a), .val (.int x), .val (.int y), .val (.int (0 : Int32))] [(.int (0 : Int32)), (.ref sa)])) t_
          refine XS.iloadN X49.here hx rfl (hb hby d10_59) rfl ?_
          show Steps p.tables e below (T49.setTop (mkF m 60 #[.val (.ref a), .val (.int x), .val (.int y), .val (.int (0 : Int32))] [(.int y), (.int (0 : Int32)), (.ref sa)])) t_
          exact k_
        obtain ⟨T50, h50, L50, X50, e50, N50, W50, V50, st50⟩ := aputI X49 hx hZ e49 H45.2.2.2.1 N45 gs (by decide) (by decide) (g := (mkF m 60 #[.val (.ref a), .val (.int x), .val (.int y), .val (.int (0 : Int32))] [(.int y), (.int (0 : Int32)), (.ref sa)])) rfl rfl (hb hby d10_60)
        have H50 := H45.storeS W50 V50
        have Z50 := H50.ge ga
        clear W50 V50
        refine Go.via st50 ?_
        show Go p.tables e below _ (T50.setTop (mkF m 61 #[.val (.ref a), .val (.int x), .val (.int y), .val (.int (0 : Int32))] []))
        refine Go.via (B := T50.setTop (mkF m 38 #[.val (.ref a), .val (.int x), .val (.int y), .val (.int ((0 : Int32) + (1 : Int32)))] [(.ref a), (.int ((0 : Int32) + (1 : Int32)))])) (fun t_ k_ => ?_) ?_
        · show Steps p.tables e below (T50.setTop (mkF m 61 #[.val (.ref a), .val (.int x), .val (.int y), .val (.int (0 : Int32))] [])) t_
          refine XS.iinc X50.here hx rfl (hb hby d10_61) rfl (l' := #[.val (.ref a), .val (.int x), .val (.int y), .val (.int ((0 : Int32) + (1 : Int32)))]) rfl ?_
          show Steps p.tables e below (T50.setTop (mkF m 64 #[.val (.ref a), .val (.int x), .val (.int y), .val (.int ((0 : Int32) + (1 : Int32)))] [])) t_
          refine XS.goto X50.here hx rfl (pc0 := 64) (pc' := 36) rfl (hb hby d10_64) (by decide) (by decide) ?_
          show Steps p.tables e below (T50.setTop (mkF m 36 #[.val (.ref a), .val (.int x), .val (.int y), .val (.int ((0 : Int32) + (1 : Int32)))] [])) t_
          refine XS.iloadN X50.here hx rfl (hb hby d10_36) rfl ?_
          show Steps p.tables e below (T50.setTop (mkF m 37 #[.val (.ref a), .val (.int x), .val (.int y), .val (.int ((0 : Int32) + (1 : Int32)))] [(.int ((0 : Int32) + (1 : Int32)))])) t_
          refine XS.aloadN X50.here hx rfl (hb hby d10_37) rfl rfl ?_
          show Steps p.tables e below (T50.setTop (mkF m 38 #[.val (.ref a), .val (.int x), .val (.int y), .val (.int ((0 : Int32) + (1 : Int32)))] [(.ref a), (.int ((0 : Int32) + (1 : Int32)))])) t_
          exact k_
        obtain ⟨T51, X51, e51, st51⟩ := getF X50 hx hZ hown (host := "") (Or.inl (hw _ (List.mem_of_getElem? (i := 34) rfl))) Via.refl e50 H50.2.1.2.2.1 (g := (mkF m 38 #[.val (.ref a), .val (.int x), .val (.int y), .val (.int ((0 : Int32) + (1 : Int32)))] [(.ref a), (.int ((0 : Int32) + (1 : Int32)))])) rfl rfl (hb hby d10_38)
        refine Go.via st51 ?_
        show Go p.tables e below _ (T51.setTop (mkF m 41 #[.val (.ref a), .val (.int x), .val (.int y), .val (.int ((0 : Int32) + (1 : Int32)))] [(.int (2 : Int32)), (.int ((0 : Int32) + (1 : Int32)))]))
        refine Go.via (B := T51.setTop (mkF m 44 #[.val (.ref a), .val (.int x), .val (.int y), .val (.int ((0 : Int32) + (1 : Int32)))] [])) (fun t_ k_ => XS.icmpNo X51.here hx rfl (hb hby d10_41) rfl ((tlt (by decide : ((0 : Int32) + (1 : Int32)) < (2 : Int32))).2.1) k_) ?_
        refine Go.via (B := T51.setTop (mkF m 45 #[.val (.ref a), .val (.int x), .val (.int y), .val (.int ((0 : Int32) + (1 : Int32)))] [(.ref a)])) (fun t_ k_ => ?_) ?_
        · show Steps p.tables e below (T51.setTop (mkF m 44 #[.val (.ref a), .val (.int x), .val (.int y), .val (.int ((0 : Int32) + (1 : Int32)))] [])) t_
          refine XS.aloadN X51.here hx rfl (hb hby d10_44) rfl rfl ?_
          show Steps p.tables e below (T51.setTop (mkF m 45 #[.val (.ref a), .val (.int x), .val (.int y), .val (.int ((0 : Int32) + (1 : Int32)))] [(.ref a)])) t_
          exact k_
        obtain ⟨T52, X52, e52, st52⟩ := getF X51 hx hZ hown (host := "") (Or.inl (hw _ (List.mem_of_getElem? (i := 18) rfl))) Via.refl e51 H50.2.1.2.1 (g := (mkF m 45 #[.val (.ref a), .val (.int x), .val (.int y), .val (.int ((0 : Int32) + (1 : Int32)))] [(.ref a)])) rfl rfl (hb hby d10_45)
        refine Go.via st52 ?_
        show Go p.tables e below _ (T52.setTop (mkF m 48 #[.val (.ref a), .val (.int x), .val (.int y), .val (.int ((0 : Int32) + (1 : Int32)))] [(.ref sa)]))
        refine Go.via (B := T52.setTop (mkF m 49 #[.val (.ref a), .val (.int x), .val (.int y), .val (.int ((0 : Int32) + (1 : Int32)))] [(.int ((0 : Int32) + (1 : Int32))), (.ref sa)])) (fun t_ k_ => ?_) ?_
        · show Steps p.tables e below (T52.setTop (mkF m 48 #[.val (.ref a), .val (.int x), .val (.int y), .val (.int ((0 : Int32) + (1 : Int32)))] [(.ref sa)])) t_
          refine XS.iloadN X52.here hx rfl (hb hby d10_48) rfl ?_
          show Steps p.tables e below (T52.setTop (mkF m 49 #[.val (.ref a), .val (.int x), .val (.int y), .val (.int ((0 : Int32) + (1 : Int32)))] [(.int ((0 : Int32) + (1 : Int32))), (.ref sa)])) t_
          exact k_
        refine Go.via (B := T52.setTop (mkF m 50 #[.val (.ref a), .val (.int x), .val (.int y), .val (.int ((0 : Int32) + (1 : Int32)))] [(.int (sf 1))])) (fun t_ k_ => agetI X52 hx hZ e52 H50.2.2.2.1 (by decide) (by decide) (g := (mkF m 49 #[.val (.ref a), .val (.int x), .val (.int y), .val (.int ((0 : Int32) + (1 : Int32)))] [(.int ((0 : Int32) + (1 : Int32))), (.ref sa)])) rfl rfl (hb hby d10_49) t_ k_) ?_
        refine Go.via (B := T52.setTop (mkF m 51 #[.val (.ref a), .val (.int x), .val (.int y), .val (.int ((0 : Int32) + (1 : Int32)))] [(.int x), (.int (sf 1))])) (fun t_ k_ => ?_) ?_
        · show Steps p.tables e below (T52.setTop (mkF m 50 #[.val (.ref a), .val (.int x), .val (.int y), .val (.int ((0 : Int32) + (1 : Int32)))] [(.int (sf 1))])) t_
          refine XS.iloadN X52.here hx rfl (hb hby d10_50) rfl ?_
          show Steps p.tables e below (T52.setTop (mkF m 51 #[.val (.ref a), .val (.int x), .val (.int y), .val (.int ((0 : Int32) + (1 : Int32)))] [(.int x), (.int (sf 1))])) t_
          exact k_
        by_cases hr11 : (sf 1) = x
        · refine Go.via (B := T52.setTop (mkF m 54 #[.val (.ref a), .val (.int x), .val (.int y), .val (.int ((0 : Int32) + (1 : Int32)))] [])) (fun t_ k_ => XS.icmpNo X52.here hx rfl (hb hby d10_51) rfl ((teq hr11).2) k_) ?_
          refine Go.via (B := T52.setTop (mkF m 55 #[.val (.ref a), .val (.int x), .val (.int y), .val (.int ((0 : Int32) + (1 : Int32)))] [(.ref a)])) (fun t_ k_ => ?_) ?_
          · show Steps p.tables e below (T52.setTop (mkF m 54 #[.val (.ref a), .val (.int x), .val (.int y), .val (.int ((0 : Int32) + (1 : Int32)))] [])) t_
            refine XS.aloadN X52.here hx rfl (hb hby d10_54) rfl rfl ?_
            show Steps p.tables e below (T52.setTop (mkF m 55 #[.val (.ref a), .val (.int x), .val (.int y), .val (.int ((0 : Int32) + (1 : Int32)))] [(.ref a)])) t_
            exact k_
          obtain ⟨T53, X53, e53, st53⟩ := getF X52 hx hZ hown (host := "") (Or.inl (hw _ (List.mem_of_getElem? (i := 18) rfl))) Via.refl e52 H50.2.1.2.1 (g := (mkF m 55 #[.val (.ref a), .val (.int x), .val (.int y), .val (.int ((0 : Int32) + (1 : Int32)))] [(.ref a)])) rfl rfl (hb hby d10_55)
          refine Go.via st53 ?_
          show Go p.tables e below _ (T53.setTop (mkF m 58 #[.val (.ref a), .val (.int x), .val (.int y), .val (.int ((0 : Int32) + (1 : Int32)))] [(.ref sa)]))
          refine Go.via (B := T53.setTop (mkF m 60 #[.val (.ref a), .val (.int x), .val (.int y), .val (.int ((0 : Int32) + (1 : Int32)))] [(.int y), (.int ((0 : Int32) + (1 : Int32))), (.ref sa)])) (fun t_ k_ => ?_) ?_
          · show Steps p.tables e below (T53.setTop (mkF m 58 #[.val (.ref a), .val (.int x), .val (.int y), .val (.int ((0 : Int32) + (1 : Int32)))] [(.ref sa)])) t_
            refine XS.iloadN X53.here hx rfl (hb hby d10_58) rfl ?_
            show Steps p.tables e below (T53.setTop (mkF m 59 #[.val (.ref a), .val (.int x), .val (.int y), .val (.int ((0 : Int32) + (1 : Int32)))] [(.int ((0 : Int32) + (1 : Int32))), (.ref sa)])) t_
            refine XS.iloadN X53.here hx rfl (hb hby d10_59) rfl ?_
            show Steps p.tables e below (T53.setTop (mkF m 60 #[.val (.ref a), .val (.int x), .val (.int y), .val (.int ((0 : Int32) + (1 : Int32)))] [(.int y), (.int ((0 : Int32) + (1 : Int32))), (.ref sa)])) t_
            exact k_
          obtain ⟨T54, h54, L54, X54, e54, N54, W54, V54, st54⟩ := aputI X53 hx hZ e53 H50.2.2.2.1 N50 gs (by decide) (by decide) (g := (mkF m 60 #[.val (.ref a), .val (.int x), .val (.int y), .val (.int ((0 : Int32) + (1 : Int32)))] [(.int y), (.int ((0 : Int32) + (1 : Int32))), (.ref sa)])) rfl rfl (hb hby d10_60)
          have H54 := H50.storeS W54 V54
          have Z54 := H54.ge ga
          clear W54 V54
          refine Go.via st54 ?_
          show Go p.tables e below _ (T54.setTop (mkF m 61 #[.val (.ref a), .val (.int x), .val (.int y), .val (.int ((0 : Int32) + (1 : Int32)))] []))
          refine Go.via (B := T54.setTop (mkF m 38 #[.val (.ref a), .val (.int x), .val (.int y), .val (.int (((0 : Int32) + (1 : Int32)) + (1 : Int32)))] [(.ref a), (.int (((0 : Int32) + (1 : Int32)) + (1 : Int32)))])) (fun t_ k_ => ?_) ?_
          · show Steps p.tables e below (T54.setTop (mkF m 61 #[.val (.ref a), .val (.int x), .val (.int y), .val (.int ((0 : Int32) + (1 : Int32)))] [])) t_
            refine XS.iinc X54.here hx rfl (hb hby d10_61) rfl (l' := #[.val (.ref a), .val (.int x), .val (.int y), .val (.int (((0 : Int32) + (1 : Int32)) + (1 : Int32)))]) rfl ?_
            show Steps p.tables e below (T54.setTop (mkF m 64 #[.val (.ref a), .val (.int x), .val (.int y), .val (.int (((0 : Int32) + (1 : Int32)) + (1 : Int32)))] [])) t_
            refine XS.goto X54.here hx rfl (pc0 := 64) (pc' := 36) rfl (hb hby d10_64) (by decide) (by decide) ?_
            show Steps p.tables e below (T54.setTop (mkF m 36 #[.val (.ref a), .val (.int x), .val (.int y), .val (.int (((0 : Int32) + (1 : Int32)) + (1 : Int32)))] [])) t_
            refine XS.iloadN X54.here hx rfl (hb hby d10_36) rfl ?_
            show Steps p.tables e below (T54.setTop (mkF m 37 #[.val (.ref a), .val (.int x), .val (.int y), .val (.int (((0 : Int32) + (1 : Int32)) + (1 : Int32)))] [(.int (((0 : Int32) + (1 : Int32)) + (1 : Int32)))])) t_
            refine XS.aloadN X54.here hx rfl (hb hby d10_37) rfl rfl ?_
            show Steps p.tables e below (T54.setTop (mkF m 38 #[.val (.ref a), .val (.int x), .val (.int y), .val (.int (((0 : Int32) + (1 : Int32)) + (1 : Int32)))] [(.ref a), (.int (((0 : Int32) + (1 : Int32)) + (1 : Int32)))])) t_
            exact k_
          obtain ⟨T55, X55, e55, st55⟩ := getF X54 hx hZ hown (host := "") (Or.inl (hw _ (List.mem_of_getElem? (i := 34) rfl))) Via.refl e54 H54.2.1.2.2.1 (g := (mkF m 38 #[.val (.ref a), .val (.int x), .val (.int y), .val (.int (((0 : Int32) + (1 : Int32)) + (1 : Int32)))] [(.ref a), (.int (((0 : Int32) + (1 : Int32)) + (1 : Int32)))])) rfl rfl (hb hby d10_38)
          refine Go.via st55 ?_
          show Go p.tables e below _ (T55.setTop (mkF m 41 #[.val (.ref a), .val (.int x), .val (.int y), .val (.int (((0 : Int32) + (1 : Int32)) + (1 : Int32)))] [(.int (2 : Int32)), (.int (((0 : Int32) + (1 : Int32)) + (1 : Int32)))]))
          refine Go.via (B := T55.setTop (mkF m 67 #[.val (.ref a), .val (.int x), .val (.int y), .val (.int (((0 : Int32) + (1 : Int32)) + (1 : Int32)))] [])) (fun t_ k_ => XS.icmpYes X55.here hx rfl (pc0 := 41) (pc' := 67) rfl (hb hby d10_41) rfl ((flt (by decide : ¬ (((0 : Int32) + (1 : Int32)) + (1 : Int32)) < (2 : Int32))).2.1) (by decide) (by decide) k_) ?_
          exact Go.leave X55 hlk (v := none) (fun _ => rfl) (fun fs hr => X55.returnOut hx hrt (hb hby d10_67) hr) (by decide) (by decide) (⟨rfl, N54, _, _, FP.at e55 H54, (if_pos hr00).symm, (if_pos hr01).symm, (if_pos hr10).symm, (if_pos hr11).symm⟩)
        · refine Go.via (B := T52.setTop (mkF m 61 #[.val (.ref a), .val (.int x), .val (.int y), .val (.int ((0 : Int32) + (1 : Int32)))] [])) (fun t_ k_ => XS.icmpYes X52.here hx rfl (pc0 := 51) (pc' := 61) rfl (hb hby d10_51) rfl ((feq hr11).2) (by decide) (by decide) k_) ?_
          refine Go.via (B := T52.setTop (mkF m 38 #[.val (.ref a), .val (.int x), .val (.int y), .val (.int (((0 : Int32) + (1 : Int32)) + (1 : Int32)))] [(.ref a), (.int (((0 : Int32) + (1 : Int32)) + (1 : Int32)))])) (fun t_ k_ => ?_) ?_
          · show Steps p.tables e below (T52.setTop (mkF m 61 #[.val (.ref a), .val (.int x), .val (.int y), .val (.int ((0 : Int32) + (1 : Int32)))] [])) t_
            refine XS.iinc X52.here hx rfl (hb hby d10_61) rfl (l' := #[.val (.ref a), .val (.int x), .val (.int y), .val (.int (((0 : Int32) + (1 : Int32)) + (1 : Int32)))]) rfl ?_
            show Steps p.tables e below (T52.setTop (mkF m 64 #[.val (.ref a), .val (.int x), .val (.int y), .val (.int (((0 : Int32) + (1 : Int32)) + (1 : Int32)))] [])) t_
            refine XS.goto X52.here hx rfl (pc0 := 64) (pc' := 36) rfl (hb hby d10_64) (by decide) (by decide) ?_
            show Steps p.tables e below (T52.setTop (mkF m 36 #[.val (.ref a), .val (.int x), .val (.int y), .val (.int (((0 : Int32) + (1 : Int32)) + (1 : Int32)))] [])) t_
            refine XS.iloadN X52.here hx rfl (hb hby d10_36) rfl ?_
            show Steps p.tables e below (T52.setTop (mkF m 37 #[.val (.ref a), .val (.int x), .val (.int y), .val (.int (((0 : Int32) + (1 : Int32)) + (1 : Int32)))] [(.int (((0 : Int32) + (1 : Int32)) + (1 : Int32)))])) t_
            refine XS.aloadN X52.here hx rfl (hb hby d10_37) rfl rfl ?_
            show Steps p.tables e below (T52.setTop (mkF m 38 #[.val (.ref a), .val (.int x), .val (.int y), .val (.int (((0 : Int32) + (1 : Int32)) + (1 : Int32)))] [(.ref a), (.int (((0 : Int32) + (1 : Int32)) + (1 : Int32)))])) t_
            exact k_
          obtain ⟨T56, X56, e56, st56⟩ := getF X52 hx hZ hown (host := "") (Or.inl (hw _ (List.mem_of_getElem? (i := 34) rfl))) Via.refl e52 H50.2.1.2.2.1 (g := (mkF m 38 #[.val (.ref a), .val (.int x), .val (.int y), .val (.int (((0 : Int32) + (1 : Int32)) + (1 : Int32)))] [(.ref a), (.int (((0 : Int32) + (1 : Int32)) + (1 : Int32)))])) rfl rfl (hb hby d10_38)
          refine Go.via st56 ?_
          show Go p.tables e below _ (T56.setTop (mkF m 41 #[.val (.ref a), .val (.int x), .val (.int y), .val (.int (((0 : Int32) + (1 : Int32)) + (1 : Int32)))] [(.int (2 : Int32)), (.int (((0 : Int32) + (1 : Int32)) + (1 : Int32)))]))
          refine Go.via (B := T56.setTop (mkF m 67 #[.val (.ref a), .val (.int x), .val (.int y), .val (.int (((0 : Int32) + (1 : Int32)) + (1 : Int32)))] [])) (fun t_ k_ => XS.icmpYes X56.here hx rfl (pc0 := 41) (pc' := 67) rfl (hb hby d10_41) rfl ((flt (by decide : ¬ (((0 : Int32) + (1 : Int32)) + (1 : Int32)) < (2 : Int32))).2.1) (by decide) (by decide) k_) ?_
          exact Go.leave X56 hlk (v := none) (fun _ => rfl) (fun fs hr => X56.returnOut hx hrt (hb hby d10_67) hr) (by decide) (by decide) (⟨rfl, N50, _, _, FP.at e56 H50, (if_pos hr00).symm, (if_pos hr01).symm, (if_pos hr10).symm, (if_neg hr11).symm⟩)
      · refine Go.via (B := T48.setTop (mkF m 61 #[.val (.ref a), .val (.int x), .val (.int y), .val (.int (0 : Int32))] [])) (fun t_ k_ => XS.icmpYes X48.here hx rfl (pc0 := 51) (pc' := 61) rfl (hb hby d10_51) rfl ((feq hr10).2) (by decide) (by decide) k_) ?_
        refine Go.via (B := T48.setTop (mkF m 38 #[.val (.ref a), .val (.int x), .val (.int y), .val (.int ((0 : Int32) + (1 : Int32)))] [(.ref a), (.int ((0 : Int32) + (1 : Int32)))])) (fun t_ k_ => ?_) ?_
        · show Steps p.tables e below (T48.setTop (mkF m 61 #[.val (.ref a), .val (.int x), .val (.int y), .val (.int (0 : Int32))] [])) t_
          refine XS.iinc X48.here hx rfl (hb hby d10_61) rfl (l' := #[.val (.ref a), .val (.int x), .val (.int y), .val (.int ((0 : Int32) + (1 : Int32)))]) rfl ?_
          show Steps p.tables e below (T48.setTop (mkF m 64 #[.val (.ref a), .val (.int x), .val (.int y), .val (.int ((0 : Int32) + (1 : Int32)))] [])) t_
          refine XS.goto X48.here hx rfl (pc0 := 64) (pc' := 36) rfl (hb hby d10_64) (by decide) (by decide) ?_
          show Steps p.tables e below (T48.setTop (mkF m 36 #[.val (.ref a), .val (.int x), .val (.int y), .val (.int ((0 : Int32) + (1 : Int32)))] [])) t_
          refine XS.iloadN X48.here hx rfl (hb hby d10_36) rfl ?_
          show Steps p.tables e below (T48.setTop (mkF m 37 #[.val (.ref a), .val (.int x), .val (.int y), .val (.int ((0 : Int32) + (1 : Int32)))] [(.int ((0 : Int32) + (1 : Int32)))])) t_
          refine XS.aloadN X48.here hx rfl (hb hby d10_37) rfl rfl ?_
          show Steps p.tables e below (T48.setTop (mkF m 38 #[.val (.ref a), .val (.int x), .val (.int y), .val (.int ((0 : Int32) + (1 : Int32)))] [(.ref a), (.int ((0 : Int32) + (1 : Int32)))])) t_
          exact k_
        obtain ⟨T57, X57, e57, st57⟩ := getF X48 hx hZ hown (host := "") (Or.inl (hw _ (List.mem_of_getElem? (i := 34) rfl))) Via.refl e48 H45.2.1.2.2.1 (g := (mkF m 38 #[.val (.ref a), .val (.int x), .val (.int y), .val (.int ((0 : Int32) + (1 : Int32)))] [(.ref a), (.int ((0 : Int32) + (1 : Int32)))])) rfl rfl (hb hby d10_38)
        refine Go.via st57 ?_
        show Go p.tables e below _ (T57.setTop (mkF m 41 #[.val (.ref a), .val (.int x), .val (.int y), .val (.int ((0 : Int32) + (1 : Int32)))] [(.int (2 : Int32)), (.int ((0 : Int32) + (1 : Int32)))]))
        refine Go.via (B := T57.setTop (mkF m 44 #[.val (.ref a), .val (.int x), .val (.int y), .val (.int ((0 : Int32) + (1 : Int32)))] [])) (fun t_ k_ => XS.icmpNo X57.here hx rfl (hb hby d10_41) rfl ((tlt (by decide : ((0 : Int32) + (1 : Int32)) < (2 : Int32))).2.1) k_) ?_
        refine Go.via (B := T57.setTop (mkF m 45 #[.val (.ref a), .val (.int x), .val (.int y), .val (.int ((0 : Int32) + (1 : Int32)))] [(.ref a)])) (fun t_ k_ => ?_) ?_
        · show Steps p.tables e below (T57.setTop (mkF m 44 #[.val (.ref a), .val (.int x), .val (.int y), .val (.int ((0 : Int32) + (1 : Int32)))] [])) t_
          refine XS.aloadN X57.here hx rfl (hb hby d10_44) rfl rfl ?_
          show Steps p.tables e below (T57.setTop (mkF m 45 #[.val (.ref a), .val (.int x), .val (.int y), .val (.int ((0 : Int32) + (1 : Int32)))] [(.ref a)])) t_
          exact k_
        obtain ⟨T58, X58, e58, st58⟩ := getF X57 hx hZ hown (host := "") (Or.inl (hw _ (List.mem_of_getElem? (i := 18) rfl))) Via.refl e57 H45.2.1.2.1 (g := (mkF m 45 #[.val (.ref a), .val (.int x), .val (.int y), .val (.int ((0 : Int32) + (1 : Int32)))] [(.ref a)])) rfl rfl (hb hby d10_45)
        refine Go.via st58 ?_
        show Go p.tables e below _ (T58.setTop (mkF m 48 #[.val (.ref a), .val (.int x), .val (.int y), .val (.int ((0 : Int32) + (1 : Int32)))] [(.ref sa)]))
        refine Go.via (B := T58.setTop (mkF m 49 #[.val (.ref a), .val (.int x), .val (.int y), .val (.int ((0 : Int32) + (1 : Int32)))] [(.int ((0 : Int32) + (1 : Int32))), (.ref sa)])) (fun t_ k_ => ?_) ?_
        · show Steps p.tables e below (T58.setTop (mkF m 48 #[.val (.ref a), .val (.int x), .val (.int y), .val (.int ((0 : Int32) + (1 : Int32)))] [(.ref sa)])) t_
          refine XS.iloadN X58.here hx rfl (hb hby d10_48) rfl ?_
          show Steps p.tables e below (T58.setTop (mkF m 49 #[.val (.ref a), .val (.int x), .val (.int y), .val (.int ((0 : Int32) + (1 : Int32)))] [(.int ((0 : Int32) + (1 : Int32))), (.ref sa)])) t_
          exact k_
        refine Go.via (B := T58.setTop (mkF m 50 #[.val (.ref a), .val (.int x), .val (.int y), .val (.int ((0 : Int32) + (1 : Int32)))] [(.int (sf 1))])) (fun t_ k_ => agetI X58 hx hZ e58 H45.2.2.2.1 (by decide) (by decide) (g := (mkF m 49 #[.val (.ref a), .val (.int x), .val (.int y), .val (.int ((0 : Int32) + (1 : Int32)))] [(.int ((0 : Int32) + (1 : Int32))), (.ref sa)])) rfl rfl (hb hby d10_49) t_ k_) ?_
        refine Go.via (B := T58.setTop (mkF m 51 #[.val (.ref a), .val (.int x), .val (.int y), .val (.int ((0 : Int32) + (1 : Int32)))] [(.int x), (.int (sf 1))])) (fun t_ k_ => ?_) ?_
        · show Steps p.tables e below (T58.setTop (mkF m 50 #[.val (.ref a), .val (.int x), .val (.int y), .val (.int ((0 : Int32) + (1 : Int32)))] [(.int (sf 1))])) t_
          refine XS.iloadN X58.here hx rfl (hb hby d10_50) rfl ?_
          show Steps p.tables e below (T58.setTop (mkF m 51 #[.val (.ref a), .val (.int x), .val (.int y), .val (.int ((0 : Int32) + (1 : Int32)))] [(.int x), (.int (sf 1))])) t_
          exact k_
        by_cases hr11 : (sf 1) = x
        · refine Go.via (B := T58.setTop (mkF m 54 #[.val (.ref a), .val (.int x), .val (.int y), .val (.int ((0 : Int32) + (1 : Int32)))] [])) (fun t_ k_ => XS.icmpNo X58.here hx rfl (hb hby d10_51) rfl ((teq hr11).2) k_) ?_
          refine Go.via (B := T58.setTop (mkF m 55 #[.val (.ref a), .val (.int x), .val (.int y), .val (.int ((0 : Int32) + (1 : Int32)))] [(.ref a)])) (fun t_ k_ => ?_) ?_
          · show Steps p.tables e below (T58.setTop (mkF m 54 #[.val (.ref a), .val (.int x), .val (.int y), .val (.int ((0 : Int32) + (1 : Int32)))] [])) t_
            refine XS.aloadN X58.here hx rfl (hb hby d10_54) rfl rfl ?_
            show Steps p.tables e below (T58.setTop (mkF m 55 #[.val (.ref a), .val (.int x), .val (.int y), .val (.int ((0 : Int32) + (1 : Int32)))] [(.ref a)])) t_
            exact k_
          obtain ⟨T59, X59, e59, st59⟩ := getF X58 hx hZ hown (host := "") (Or.inl (hw _ (List.mem_of_getElem? (i := 18) rfl))) Via.refl e58 H45.2.1.2.1 (g := (mkF m 55 #[.val (.ref a), .val (.int x), .val (.int y), .val (.int ((0 : Int32) + (1 : Int32)))] [(.ref a)])) rfl rfl (hb hby d10_55)
          refine Go.via st59 ?_
          show Go p.tables e below _ (T59.setTop (mkF m 58 #[.val (.ref a), .val (.int x), .val (.int y), .val (.int ((0 : Int32) + (1 : Int32)))] [(.ref sa)]))
          refine Go.via (B := T59.setTop (mkF m 60 #[.val (.ref a), .val (.int x), .val (.int y), .val (.int ((0 : Int32) + (1 : Int32)))] [(.int y), (.int ((0 : Int32) + (1 : Int32))), (.ref sa)])) (fun t_ k_ => ?_) ?_
          · show Steps p.tables e below (T59.setTop (mkF m 58 #[.val (.ref a), .val (.int x), .val (.int y), .val (.int ((0 : Int32) + (1 : Int32)))] [(.ref sa)])) t_
            refine XS.iloadN X59.here hx rfl (hb hby d10_58) rfl ?_
            show Steps p.tables e below (T59.setTop (mkF m 59 #[.val (.ref a), .val (.int x), .val (.int y), .val (.int ((0 : Int32) + (1 : Int32)))] [(.int ((0 : Int32) + (1 : Int32))), (.ref sa)])) t_
            refine XS.iloadN X59.here hx rfl (hb hby d10_59) rfl ?_
            show Steps p.tables e below (T59.setTop (mkF m 60 #[.val (.ref a), .val (.int x), .val (.int y), .val (.int ((0 : Int32) + (1 : Int32)))] [(.int y), (.int ((0 : Int32) + (1 : Int32))), (.ref sa)])) t_
            exact k_
          obtain ⟨T60, h60, L60, X60, e60, N60, W60, V60, st60⟩ := aputI X59 hx hZ e59 H45.2.2.2.1 N45 gs (by decide) (by decide) (g := (mkF m 60 #[.val (.ref a), .val (.int x), .val (.int y), .val (.int ((0 : Int32) + (1 : Int32)))] [(.int y), (.int ((0 : Int32) + (1 : Int32))), (.ref sa)])) rfl rfl (hb hby d10_60)
          have H60 := H45.storeS W60 V60
          have Z60 := H60.ge ga
          clear W60 V60
          refine Go.via st60 ?_
          show Go p.tables e below _ (T60.setTop (mkF m 61 #[.val (.ref a), .val (.int x), .val (.int y), .val (.int ((0 : Int32) + (1 : Int32)))] []))
          refine Go.via (B := T60.setTop (mkF m 38 #[.val (.ref a), .val (.int x), .val (.int y), .val (.int (((0 : Int32) + (1 : Int32)) + (1 : Int32)))] [(.ref a), (.int (((0 : Int32) + (1 : Int32)) + (1 : Int32)))])) (fun t_ k_ => ?_) ?_
          · show Steps p.tables e below (T60.setTop (mkF m 61 #[.val (.ref a), .val (.int x), .val (.int y), .val (.int ((0 : Int32) + (1 : Int32)))] [])) t_
            refine XS.iinc X60.here hx rfl (hb hby d10_61) rfl (l' := #[.val (.ref a), .val (.int x), .val (.int y), .val (.int (((0 : Int32) + (1 : Int32)) + (1 : Int32)))]) rfl ?_
            show Steps p.tables e below (T60.setTop (mkF m 64 #[.val (.ref a), .val (.int x), .val (.int y), .val (.int (((0 : Int32) + (1 : Int32)) + (1 : Int32)))] [])) t_
            refine XS.goto X60.here hx rfl (pc0 := 64) (pc' := 36) rfl (hb hby d10_64) (by decide) (by decide) ?_
            show Steps p.tables e below (T60.setTop (mkF m 36 #[.val (.ref a), .val (.int x), .val (.int y), .val (.int (((0 : Int32) + (1 : Int32)) + (1 : Int32)))] [])) t_
            refine XS.iloadN X60.here hx rfl (hb hby d10_36) rfl ?_
            show Steps p.tables e below (T60.setTop (mkF m 37 #[.val (.ref a), .val (.int x), .val (.int y), .val (.int (((0 : Int32) + (1 : Int32)) + (1 : Int32)))] [(.int (((0 : Int32) + (1 : Int32)) + (1 : Int32)))])) t_
            refine XS.aloadN X60.here hx rfl (hb hby d10_37) rfl rfl ?_
            show Steps p.tables e below (T60.setTop (mkF m 38 #[.val (.ref a), .val (.int x), .val (.int y), .val (.int (((0 : Int32) + (1 : Int32)) + (1 : Int32)))] [(.ref a), (.int (((0 : Int32) + (1 : Int32)) + (1 : Int32)))])) t_
            exact k_
          obtain ⟨T61, X61, e61, st61⟩ := getF X60 hx hZ hown (host := "") (Or.inl (hw _ (List.mem_of_getElem? (i := 34) rfl))) Via.refl e60 H60.2.1.2.2.1 (g := (mkF m 38 #[.val (.ref a), .val (.int x), .val (.int y), .val (.int (((0 : Int32) + (1 : Int32)) + (1 : Int32)))] [(.ref a), (.int (((0 : Int32) + (1 : Int32)) + (1 : Int32)))])) rfl rfl (hb hby d10_38)
          refine Go.via st61 ?_
          show Go p.tables e below _ (T61.setTop (mkF m 41 #[.val (.ref a), .val (.int x), .val (.int y), .val (.int (((0 : Int32) + (1 : Int32)) + (1 : Int32)))] [(.int (2 : Int32)), (.int (((0 : Int32) + (1 : Int32)) + (1 : Int32)))]))
          refine Go.via (B := T61.setTop (mkF m 67 #[.val (.ref a), .val (.int x), .val (.int y), .val (.int (((0 : Int32) + (1 : Int32)) + (1 : Int32)))] [])) (fun t_ k_ => XS.icmpYes X61.here hx rfl (pc0 := 41) (pc' := 67) rfl (hb hby d10_41) rfl ((flt (by decide : ¬ (((0 : Int32) + (1 : Int32)) + (1 : Int32)) < (2 : Int32))).2.1) (by decide) (by decide) k_) ?_
          exact Go.leave X61 hlk (v := none) (fun _ => rfl) (fun fs hr => X61.returnOut hx hrt (hb hby d10_67) hr) (by decide) (by decide) (⟨rfl, N60, _, _, FP.at e61 H60, (if_pos hr00).symm, (if_pos hr01).symm, (if_neg hr10).symm, (if_pos hr11).symm⟩)
        · refine Go.via (B := T58.setTop (mkF m 61 #[.val (.ref a), .val (.int x), .val (.int y), .val (.int ((0 : Int32) + (1 : Int32)))] [])) (fun t_ k_ => XS.icmpYes X58.here hx rfl (pc0 := 51) (pc' := 61) rfl (hb hby d10_51) rfl ((feq hr11).2) (by decide) (by decide) k_) ?_
          refine Go.via (B := T58.setTop (mkF m 38 #[.val (.ref a), .val (.int x), .val (.int y), .val (.int (((0 : Int32) + (1 : Int32)) + (1 : Int32)))] [(.ref a), (.int (((0 : Int32) + (1 : Int32)) + (1 : Int32)))])) (fun t_ k_ => ?_) ?_
          · show Steps p.tables e below (T58.setTop (mkF m 61 #[.val (.ref a), .val (.int x), .val (.int y), .val (.int ((0 : Int32) + (1 : Int32)))] [])) t_
            refine XS.iinc X58.here hx rfl (hb hby d10_61) rfl (l' := #[.val (.ref a), .val (.int x), .val (.int y), .val (.int (((0 : Int32) + (1 : Int32)) + (1 : Int32)))]) rfl ?_
            show Steps p.tables e below (T58.setTop (mkF m 64 #[.val (.ref a), .val (.int x), .val (.int y), .val (.int (((0 : Int32) + (1 : Int32)) + (1 : Int32)))] [])) t_
            refine XS.goto X58.here hx rfl (pc0 := 64) (pc' := 36) rfl (hb hby d10_64) (by decide) (by decide) ?_
            show Steps p.tables e below (T58.setTop (mkF m 36 #[.val (.ref a), .val (.int x), .val (.int y), .val (.int (((0 : Int32) + (1 : Int32)) + (1 : Int32)))] [])) t_
            refine XS.iloadN X58.here hx rfl (hb hby d10_36) rfl ?_
            show Steps p.tables e below (T58.setTop (mkF m 37 #[.val (.ref a), .val (.int x), .val (.int y), .val (.int (((0 : Int32) + (1 : Int32)) + (1 : Int32)))] [(.int (((0 : Int32) + (1 : Int32)) + (1 : Int32)))])) t_
            refine XS.aloadN X58.here hx rfl (hb hby d10_37) rfl rfl ?_
            show Steps p.tables e below (T58.setTop (mkF m 38 #[.val (.ref a), .val (.int x), .val (.int y), .val (.int (((0 : Int32) + (1 : Int32)) + (1 : Int32)))] [(.ref a), (.int (((0 : Int32) + (1 : Int32)) + (1 : Int32)))])) t_
            exact k_
          obtain ⟨T62, X62, e62, st62⟩ := getF X58 hx hZ hown (host := "") (Or.inl (hw _ (List.mem_of_getElem? (i := 34) rfl))) Via.refl e58 H45.2.1.2.2.1 (g := (mkF m 38 #[.val (.ref a), .val (.int x), .val (.int y), .val (.int (((0 : Int32) + (1 : Int32)) + (1 : Int32)))] [(.ref a), (.int (((0 : Int32) + (1 : Int32)) + (1 : Int32)))])) rfl rfl (hb hby d10_38)
          refine Go.via st62 ?_
          show Go p.tables e below _ (T62.setTop (mkF m 41 #[.val (.ref a), .val (.int x), .val (.int y), .val (.int (((0 : Int32) + (1 : Int32)) + (1 : Int32)))] [(.int (2 : Int32)), (.int (((0 : Int32) + (1 : Int32)) + (1 : Int32)))]))
          refine Go.via (B := T62.setTop (mkF m 67 #[.val (.ref a), .val (.int x), .val (.int y), .val (.int (((0 : Int32) + (1 : Int32)) + (1 : Int32)))] [])) (fun t_ k_ => XS.icmpYes X62.here hx rfl (pc0 := 41) (pc' := 67) rfl (hb hby d10_41) rfl ((flt (by decide : ¬ (((0 : Int32) + (1 : Int32)) + (1 : Int32)) < (2 : Int32))).2.1) (by decide) (by decide) k_) ?_
          exact Go.leave X62 hlk (v := none) (fun _ => rfl) (fun fs hr => X62.returnOut hx hrt (hb hby d10_67) hr) (by decide) (by decide) (⟨rfl, N45, _, _, FP.at e62 H45, (if_pos hr00).symm, (if_pos hr01).symm, (if_neg hr10).symm, (if_neg hr11).symm⟩)
    · refine Go.via (B := T43.setTop (mkF m 28 #[.val (.ref a), .val (.int x), .val (.int y), .val (.int ((0 : Int32) + (1 : Int32)))] [])) (fun t_ k_ => XS.icmpYes X43.here hx rfl (pc0 := 18) (pc' := 28) rfl (hb hby d10_18) rfl ((feq hr01).2) (by decide) (by decide) k_) ?_
      refine Go.via (B := T43.setTop (mkF m 4 #[.val (.ref a), .val (.int x), .val (.int y), .val (.int (((0 : Int32) + (1 : Int32)) + (1 : Int32)))] [(.ref a), (.int (((0 : Int32) + (1 : Int32)) + (1 : Int32)))])) (fun t_ k_ => ?_) ?_
      · show Steps p.tables e below (T43.setTop (mkF m 28 #[.val (.ref a), .val (.int x), .val (.int y), .val (.int ((0 : Int32) + (1 : Int32)))] [])) t_
        refine XS.iinc X43.here hx rfl (hb hby d10_28) rfl (l' := #[.val (.ref a), .val (.int x), .val (.int y), .val (.int (((0 : Int32) + (1 : Int32)) + (1 : Int32)))]) rfl ?_
        show Steps p.tables e below (T43.setTop (mkF m 31 #[.val (.ref a), .val (.int x), .val (.int y), .val (.int (((0 : Int32) + (1 : Int32)) + (1 : Int32)))] [])) t_
        refine XS.goto X43.here hx rfl (pc0 := 31) (pc' := 2) rfl (hb hby d10_31) (by decide) (by decide) ?_
        show Steps p.tables e below (T43.setTop (mkF m 2 #[.val (.ref a), .val (.int x), .val (.int y), .val (.int (((0 : Int32) + (1 : Int32)) + (1 : Int32)))] [])) t_
        refine XS.iloadN X43.here hx rfl (hb hby d10_2) rfl ?_
        show Steps p.tables e below (T43.setTop (mkF m 3 #[.val (.ref a), .val (.int x), .val (.int y), .val (.int (((0 : Int32) + (1 : Int32)) + (1 : Int32)))] [(.int (((0 : Int32) + (1 : Int32)) + (1 : Int32)))])) t_
        refine XS.aloadN X43.here hx rfl (hb hby d10_3) rfl rfl ?_
        show Steps p.tables e below (T43.setTop (mkF m 4 #[.val (.ref a), .val (.int x), .val (.int y), .val (.int (((0 : Int32) + (1 : Int32)) + (1 : Int32)))] [(.ref a), (.int (((0 : Int32) + (1 : Int32)) + (1 : Int32)))])) t_
        exact k_
      obtain ⟨T63, X63, e63, st63⟩ := getF X43 hx hZ hown (host := "") (Or.inl (hw _ (List.mem_of_getElem? (i := 14) rfl))) Via.refl e43 H41.2.1.1 (g := (mkF m 4 #[.val (.ref a), .val (.int x), .val (.int y), .val (.int (((0 : Int32) + (1 : Int32)) + (1 : Int32)))] [(.ref a), (.int (((0 : Int32) + (1 : Int32)) + (1 : Int32)))])) rfl rfl (hb hby d10_4)
      refine Go.via st63 ?_
      show Go p.tables e below _ (T63.setTop (mkF m 7 #[.val (.ref a), .val (.int x), .val (.int y), .val (.int (((0 : Int32) + (1 : Int32)) + (1 : Int32)))] [(.ref la), (.int (((0 : Int32) + (1 : Int32)) + (1 : Int32)))]))
      refine Go.via (B := T63.setTop (mkF m 8 #[.val (.ref a), .val (.int x), .val (.int y), .val (.int (((0 : Int32) + (1 : Int32)) + (1 : Int32)))] [(.int (2 : Int32)), (.int (((0 : Int32) + (1 : Int32)) + (1 : Int32)))])) (fun t_ k_ => alen X63 hx hZ e63 H41.2.2.1 (g := (mkF m 7 #[.val (.ref a), .val (.int x), .val (.int y), .val (.int (((0 : Int32) + (1 : Int32)) + (1 : Int32)))] [(.ref la), (.int (((0 : Int32) + (1 : Int32)) + (1 : Int32)))])) rfl rfl (hb hby d10_7) t_ k_) ?_
      refine Go.via (B := T63.setTop (mkF m 34 #[.val (.ref a), .val (.int x), .val (.int y), .val (.int (((0 : Int32) + (1 : Int32)) + (1 : Int32)))] [])) (fun t_ k_ => XS.icmpYes X63.here hx rfl (pc0 := 8) (pc' := 34) rfl (hb hby d10_8) rfl ((flt (by decide : ¬ (((0 : Int32) + (1 : Int32)) + (1 : Int32)) < (2 : Int32))).2.1) (by decide) (by decide) k_) ?_
      refine Go.via (B := T63.setTop (mkF m 38 #[.val (.ref a), .val (.int x), .val (.int y), .val (.int (0 : Int32))] [(.ref a), (.int (0 : Int32))])) (fun t_ k_ => ?_) ?_
      · show Steps p.tables e below (T63.setTop (mkF m 34 #[.val (.ref a), .val (.int x), .val (.int y), .val (.int (((0 : Int32) + (1 : Int32)) + (1 : Int32)))] [])) t_
        refine XS.iconst X63.here hx rfl (hb hby d10_34) ?_
        show Steps p.tables e below (T63.setTop (mkF m 35 #[.val (.ref a), .val (.int x), .val (.int y), .val (.int (((0 : Int32) + (1 : Int32)) + (1 : Int32)))] [(.int (0 : Int32))])) t_
        refine XS.istoreN X63.here hx rfl (hb hby d10_35) rfl (l' := #[.val (.ref a), .val (.int x), .val (.int y), .val (.int (0 : Int32))]) rfl ?_
        show Steps p.tables e below (T63.setTop (mkF m 36 #[.val (.ref a), .val (.int x), .val (.int y), .val (.int (0 : Int32))] [])) t_
        refine XS.iloadN X63.here hx rfl (hb hby d10_36) rfl ?_
        show Steps p.tables e below (T63.setTop (mkF m 37 #[.val (.ref a), .val (.int x), .val (.int y), .val (.int (0 : Int32))] [(.int (0 : Int32))])) t_
        refine XS.aloadN X63.here hx rfl (hb hby d10_37) rfl rfl ?_
        show Steps p.tables e below (T63.setTop (mkF m 38 #[.val (.ref a), .val (.int x), .val (.int y), .val (.int (0 : Int32))] [(.ref a), (.int (0 : Int32))])) t_
        exact k_
      obtain ⟨T64, X64, e64, st64⟩ := getF X63 hx hZ hown (host := "") (Or.inl (hw _ (List.mem_of_getElem? (i := 34) rfl))) Via.refl e63 H41.2.1.2.2.1 (g := (mkF m 38 #[.val (.ref a), .val (.int x), .val (.int y), .val (.int (0 : Int32))] [(.ref a), (.int (0 : Int32))])) rfl rfl (hb hby d10_38)
      refine Go.via st64 ?_
      show Go p.tables e below _ (T64.setTop (mkF m 41 #[.val (.ref a), .val (.int x), .val (.int y), .val (.int (0 : Int32))] [(.int (2 : Int32)), (.int (0 : Int32))]))
      refine Go.via (B := T64.setTop (mkF m 44 #[.val (.ref a), .val (.int x), .val (.int y), .val (.int (0 : Int32))] [])) (fun t_ k_ => XS.icmpNo X64.here hx rfl (hb hby d10_41) rfl ((tlt (by decide : (0 : Int32) < (2 : Int32))).2.1) k_) ?_
      refine Go.via (B := T64.setTop (mkF m 45 #[.val (.ref a), .val (.int x), .val (.int y), .val (.int (0 : Int32))] [(.ref a)])) (fun t_ k_ => ?_) ?_
      · show Steps p.tables e below (T64.setTop (mkF m 44 #[.val (.ref a), .val (.int x), .val (.int y), .val (.int (0 : Int32))] [])) t_
        refine XS.aloadN X64.here hx rfl (hb hby d10_44) rfl rfl ?_
        show Steps p.tables e below (T64.setTop (mkF m 45 #[.val (.ref a), .val (.int x), .val (.int y), .val (.int (0 : Int32))] [(.ref a)])) t_
        exact k_
      obtain ⟨T65, X65, e65, st65⟩ := getF X64 hx hZ hown (host := "") (Or.inl (hw _ (List.mem_of_getElem? (i := 18) rfl))) Via.refl e64 H41.2.1.2.1 (g := (mkF m 45 #[.val (.ref a), .val (.int x), .val (.int y), .val (.int (0 : Int32))] [(.ref a)])) rfl rfl (hb hby d10_45)
      refine Go.via st65 ?_
      show Go p.tables e below _ (T65.setTop (mkF m 48 #[.val (.ref a), .val (.int x), .val (.int y), .val (.int (0 : Int32))] [(.ref sa)]))
      refine Go.via (B := T65.setTop (mkF m 49 #[.val (.ref a), .val (.int x), .val (.int y), .val (.int (0 : Int32))] [(.int (0 : Int32)), (.ref sa)])) (fun t_ k_ => ?_) ?_
      · show Steps p.tables e below (T65.setTop (mkF m 48 #[.val (.ref a), .val (.int x), .val (.int y), .val (.int (0 : Int32))] [(.ref sa)])) t_
        refine XS.iloadN X65.here hx rfl (hb hby d10_48) rfl ?_
        show Steps p.tables e below (T65.setTop (mkF m 49 #[.val (.ref a), .val (.int x), .val (.int y), .val (.int (0 : Int32))] [(.int (0 : Int32)), (.ref sa)])) t_
        exact k_
      refine Go.via (B := T65.setTop (mkF m 50 #[.val (.ref a), .val (.int x), .val (.int y), .val (.int (0 : Int32))] [(.int (sf 0))])) (fun t_ k_ => agetI X65 hx hZ e65 H41.2.2.2.1 (by decide) (by decide) (g := (mkF m 49 #[.val (.ref a), .val (.int x), .val (.int y), .val (.int (0 : Int32))] [(.int (0 : Int32)), (.ref sa)])) rfl rfl (hb hby d10_49) t_ k_) ?_
      refine Go.via (B := T65.setTop (mkF m 51 #[.val (.ref a), .val (.int x), .val (.int y), .val (.int (0 : Int32))] [(.int x), (.int (sf 0))])) (fun t_ k_ => ?_) ?_
      · show Steps p.tables e below (T65.setTop (mkF m 50 #[.val (.ref a), .val (.int x), .val (.int y), .val (.int (0 : Int32))] [(.int (sf 0))])) t_
        refine XS.iloadN X65.here hx rfl (hb hby d10_50) rfl ?_
        show Steps p.tables e below (T65.setTop (mkF m 51 #[.val (.ref a), .val (.int x), .val (.int y), .val (.int (0 : Int32))] [(.int x), (.int (sf 0))])) t_
        exact k_
      by_cases hr10 : (sf 0) = x
      · refine Go.via (B := T65.setTop (mkF m 54 #[.val (.ref a), .val (.int x), .val (.int y), .val (.int (0 : Int32))] [])) (fun t_ k_ => XS.icmpNo X65.here hx rfl (hb hby d10_51) rfl ((teq hr10).2) k_) ?_
        refine Go.via (B := T65.setTop (mkF m 55 #[.val (.ref a), .val (.int x), .val (.int y), .val (.int (0 : Int32))] [(.ref a)])) (fun t_ k_ => ?_) ?_
        · show Steps p.tables e below (T65.setTop (mkF m 54 #[.val (.ref a), .val (.int x), .val (.int y), .val (.int (0 : Int32))] [])) t_
          refine XS.aloadN X65.here hx rfl (hb hby d10_54) rfl rfl ?_
          show Steps p.tables e below (T65.setTop (mkF m 55 #[.val (.ref a), .val (.int x), .val (.int y), .val (.int (0 : Int32))] [(.ref a)])) t_
          exact k_
        obtain ⟨T66, X66, e66, st66⟩ := getF X65 hx hZ hown (host := "") (Or.inl (hw _ (List.mem_of_getElem? (i := 18) rfl))) Via.refl e65 H41.2.1.2.1 (g := (mkF m 55 #[.val (.ref a), .val (.int x), .val (.int y), .val (.int (0 : Int32))] [(.ref a)])) rfl rfl (hb hby d10_55)
        refine Go.via st66 ?_
        show Go p.tables e below _ (T66.setTop (mkF m 58 #[.val (.ref a), .val (.int x), .val (.int y), .val (.int (0 : Int32))] [(.ref sa)]))
        refine Go.via (B := T66.setTop (mkF m 60 #[.val (.ref a), .val (.int x), .val (.int y), .val (.int (0 : Int32))] [(.int y), (.int (0 : Int32)), (.ref sa)])) (fun t_ k_ => ?_) ?_
        · show Steps p.tables e below (T66.setTop (mkF m 58 #[.val (.ref a), .val (.int x), .val (.int y), .val (.int (0 : Int32))] [(.ref sa)])) t_
          refine XS.iloadN X66.here hx rfl (hb hby d10_58) rfl ?_
          show Steps p.tables e below (T66.setTop (mkF m 59 #[.val (.ref a), .val (.int x), .val (.int y), .val (.int (0 : Int32))] [(.int (0 : Int32)), (.ref sa)])) t_
          refine XS.iloadN X66.here hx rfl (hb hby d10_59) rfl ?_
          show Steps p.tables e below (T66.setTop (mkF m 60 #[.val (.ref a), .val (.int x), .val (.int y), .val (.int (0 : Int32))] [(.int y), (.int (0 : Int32)), (.ref sa)])) t_
          exact k_
        obtain ⟨T67, h67, L67, X67, e67, N67, W67, V67, st67⟩ := aputI X66 hx hZ e66 H41.2.2.2.1 N41 gs (by decide) (by decide) (g := (mkF m 60 #[.val (.ref a), .val (.int x), .val (.int y), .val (.int (0 : Int32))] [(.int y), (.int (0 : Int32)), (.ref sa)])) rfl rfl (hb hby d10_60)
        have H67 := H41.storeS W67 V67
        have Z67 := H67.ge ga
        clear W67 V67
        refine Go.via st67 ?_
        show Go p.tables e below _ (T67.setTop (mkF m 61 #[.val (.ref a), .val (.int x), .val (.int y), .val (.int (0 : Int32))] []))
        refine Go.via (B := T67.setTop (mkF m 38 #[.val (.ref a), .val (.int x), .val (.int y), .val (.int ((0 : Int32) + (1 : Int32)))] [(.ref a), (.int ((0 : Int32) + (1 : Int32)))])) (fun t_ k_ => ?_) ?_
        · show Steps p.tables e below (T67.setTop (mkF m 61 #[.val (.ref a), .val (.int x), .val (.int y), .val (.int (0 : Int32))] [])) t_
          refine XS.iinc X67.here hx rfl (hb hby d10_61) rfl (l' := #[.val (.ref a), .val (.int x), .val (.int y), .val (.int ((0 : Int32) + (1 : Int32)))]) rfl ?_
          show Steps p.tables e below (T67.setTop (mkF m 64 #[.val (.ref a), .val (.int x), .val (.int y), .val (.int ((0 : Int32) + (1 : Int32)))] [])) t_
          refine XS.goto X67.here hx rfl (pc0 := 64) (pc' := 36) rfl (hb hby d10_64) (by decide) (by decide) ?_
          show Steps p.tables e below (T67.setTop (mkF m 36 #[.val (.ref a), .val (.int x), .val (.int y), .val (.int ((0 : Int32) + (1 : Int32)))] [])) t_
          refine XS.iloadN X67.here hx rfl (hb hby d10_36) rfl ?_
          show Steps p.tables e below (T67.setTop (mkF m 37 #[.val (.ref a), .val (.int x), .val (.int y), .val (.int ((0 : Int32) + (1 : Int32)))] [(.int ((0 : Int32) + (1 : Int32)))])) t_
          refine XS.aloadN X67.here hx rfl (hb hby d10_37) rfl rfl ?_
          show Steps p.tables e below (T67.setTop (mkF m 38 #[.val (.ref a), .val (.int x), .val (.int y), .val (.int ((0 : Int32) + (1 : Int32)))] [(.ref a), (.int ((0 : Int32) + (1 : Int32)))])) t_
          exact k_
        obtain ⟨T68, X68, e68, st68⟩ := getF X67 hx hZ hown (host := "") (Or.inl (hw _ (List.mem_of_getElem? (i := 34) rfl))) Via.refl e67 H67.2.1.2.2.1 (g := (mkF m 38 #[.val (.ref a), .val (.int x), .val (.int y), .val (.int ((0 : Int32) + (1 : Int32)))] [(.ref a), (.int ((0 : Int32) + (1 : Int32)))])) rfl rfl (hb hby d10_38)
        refine Go.via st68 ?_
        show Go p.tables e below _ (T68.setTop (mkF m 41 #[.val (.ref a), .val (.int x), .val (.int y), .val (.int ((0 : Int32) + (1 : Int32)))] [(.int (2 : Int32)), (.int ((0 : Int32) + (1 : Int32)))]))
        refine Go.via (B := T68.setTop (mkF m 44 #[.val (.ref a), .val (.int x), .val (.int y), .val (.int ((0 : Int32) + (1 : Int32)))] [])) (fun t_ k_ => XS.icmpNo X68.here hx rfl (hb hby d10_41) rfl ((tlt (by decide : ((0 : Int32) + (1 : Int32)) < (2 : Int32))).2.1) k_) ?_
        refine Go.via (B := T68.setTop (mkF m 45 #[.val (.ref a), .val (.int x), .val (.int y), .val (.int ((0 : Int32) + (1 : Int32)))] [(.ref a)])) (fun t_ k_ => ?_) ?_
        · show Steps p.tables e below (T68.setTop (mkF m 44 #[.val (.ref a), .val (.int x), .val (.int y), .val (.int ((0 : Int32) + (1 : Int32)))] [])) t_
          refine XS.aloadN X68.here hx rfl (hb hby d10_44) rfl rfl ?_
          show Steps p.tables e below (T68.setTop (mkF m 45 #[.val (.ref a), .val (.int x), .val (.int y), .val (.int ((0 : Int32) + (1 : Int32)))] [(.ref a)])) t_
          exact k_
        obtain ⟨T69, X69, e69, st69⟩ := getF X68 hx hZ hown (host := "") (Or.inl (hw _ (List.mem_of_getElem? (i := 18) rfl))) Via.refl e68 H67.2.1.2.1 (g := (mkF m 45 #[.val (.ref a), .val (.int x), .val (.int y), .val (.int ((0 : Int32) + (1 : Int32)))] [(.ref a)])) rfl rfl (hb hby d10_45)
        refine Go.via st69 ?_
        show Go p.tables e below _ (T69.setTop (mkF m 48 #[.val (.ref a), .val (.int x), .val (.int y), .val (.int ((0 : Int32) + (1 : Int32)))] [(.ref sa)]))
        refine Go.via (B := T69.setTop (mkF m 49 #[.val (.ref a), .val (.int x), .val (.int y), .val (.int ((0 : Int32) + (1 : Int32)))] [(.int ((0 : Int32) + (1 : Int32))), (.ref sa)])) (fun t_ k_ => ?_) ?_
        · show Steps p.tables e below (T69.setTop (mkF m 48 #[.val (.ref a), .val (.int x), .val (.int y), .val (.int ((0 : Int32) + (1 : Int32)))] [(.ref sa)])) t_
          refine XS.iloadN X69.here hx rfl (hb hby d10_48) rfl ?_
          show Steps p.tables e below (T69.setTop (mkF m 49 #[.val (.ref a), .val (.int x), .val (.int y), .val (.int ((0 : Int32) + (1 : Int32)))] [(.int ((0 : Int32) + (1 : Int32))), (.ref sa)])) t_
          exact k_
        refine Go.via (B := T69.setTop (mkF m 50 #[.val (.ref a), .val (.int x), .val (.int y), .val (.int ((0 : Int32) + (1 : Int32)))] [(.int (sf 1))])) (fun t_ k_ => agetI X69 hx hZ e69 H67.2.2.2.1 (by decide) (by decide) (g := (mkF m 49 #[.val (.ref a), .val (.int x), .val (.int y), .val (.int ((0 : Int32) + (1 : Int32)))] [(.int ((0 : Int32) + (1 : Int32))), (.ref sa)])) rfl rfl (hb hby d10_49) t_ k_) ?_
        refine Go.via (B := T69.setTop (mkF m 51 #[.val (.ref a), .val (.int x), .val (.int y), .val (.int ((0 : Int32) + (1 : Int32)))] [(.int x), (.int (sf 1))])) (fun t_ k_ => ?_) ?_
        · show Steps p.tables e below (T69.setTop (mkF m 50 #[.val (.ref a), .val (.int x), .val (.int y), .val (.int ((0 : Int32) + (1 : Int32)))] [(.int (sf 1))])) t_
          refine XS.iloadN X69.here hx rfl (hb hby d10_50) rfl ?_
          show Steps p.tables e below (T69.setTop (mkF m 51 #[.val (.ref a), .val (.int x), .val (.int y), .val (.int ((0 : Int32) + (1 : Int32)))] [(.int x), (.int (sf 1))])) t_
          exact k_
        by_cases hr11 : (sf 1) = x
        · refine Go.via (B := T69.setTop (mkF m 54 #[.val (.ref a), .val (.int x), .val (.int y), .val (.int ((0 : Int32) + (1 : Int32)))] [])) (fun t_ k_ => XS.icmpNo X69.here hx rfl (hb hby d10_51) rfl ((teq hr11).2) k_) ?_
          refine Go.via (B := T69.setTop (mkF m 55 #[.val (.ref a), .val (.int x), .val (.int y), .val (.int ((0 : Int32) + (1 : Int32)))] [(.ref a)])) (fun t_ k_ => ?_) ?_
          · show Steps p.tables e below (T69.setTop (mkF m 54 #[.val (.ref a), .val (.int x), .val (.int y), .val (.int ((0 : Int32) + (1 : Int32)))] [])) t_
            refine XS.aloadN X69.here hx rfl (hb hby d10_54) rfl rfl ?_
            show Steps p.tables e below (T69.setTop (mkF m 55 #[.val (.ref a), .val (.int x), .val (.int y), .val (.int ((0 : Int32) + (1 : Int32)))] [(.ref a)])) t_
            exact k_
          obtain ⟨T70, X70, e70, st70⟩ := getF X69 hx hZ hown (host := "") (Or.inl (hw _ (List.mem_of_getElem? (i := 18) rfl))) Via.refl e69 H67.2.1.2.1 (g := (mkF m 55 #[.val (.ref a), .val (.int x), .val (.int y), .val (.int ((0 : Int32) + (1 : Int32)))] [(.ref a)])) rfl rfl (hb hby d10_55)
          refine Go.via st70 ?_
          show Go p.tables e below _ (T70.setTop (mkF m 58 #[.val (.ref a), .val (.int x), .val (.int y), .val (.int ((0 : Int32) + (1 : Int32)))] [(.ref sa)]))
          refine Go.via (B := T70.setTop (mkF m 60 #[.val (.ref a), .val (.int x), .val (.int y), .val (.int ((0 : Int32) + (1 : Int32)))] [(.int y), (.int ((0 : Int32) + (1 : Int32))), (.ref sa)])) (fun t_ k_ => ?_) ?_
          · show Steps p.tables e below (T70.setTop (mkF m 58 #[.val (.ref a), .val (.int x), .val (.int y), .val (.int ((0 : Int32) + (1 : Int32)))] [(.ref sa)])) t_
            refine XS.iloadN X70.here hx rfl (hb hby d10_58) rfl ?_
            show Steps p.tables e below (T70.setTop (mkF m 59 #[.val (.ref a), .val (.int x), .val (.int y), .val (.int ((0 : Int32) + (1 : Int32)))] [(.int ((0 : Int32) + (1 : Int32))), (.ref sa)])) t_
            refine XS.iloadN X70.here hx rfl (hb hby d10_59) rfl ?_
            show Steps p.tables e below (T70.setTop (mkF m 60 #[.val (.ref a), .val (.int x), .val (.int y), .val (.int ((0 : Int32) + (1 : Int32)))] [(.int y), (.int ((0 : Int32) + (1 : Int32))), (.ref sa)])) t_
            exact k_
          obtain ⟨T71, h71, L71, X71, e71, N71, W71, V71, st71⟩ := aputI X70 hx hZ e70 H67.2.2.2.1 N67 gs (by decide) (by decide) (g := (mkF m 60 #[.val (.ref a), .val (.int x), .val (.int y), .val (.int ((0 : Int32) + (1 : Int32)))] [(.int y), (.int ((0 : Int32) + (1 : Int32))), (.ref sa)])) rfl rfl (hb hby d10_60)
          have H71 := H67.storeS W71 V71
          have Z71 := H71.ge ga
          clear W71 V71
          refine Go.via st71 ?_
          show Go p.tables e below _ (T71.setTop (mkF m 61 #[.val (.ref a), .val (.int x), .val (.int y), .val (.int ((0 : Int32) + (1 : Int32)))] []))
          refine Go.via (B := T71.setTop (mkF m 38 #[.val (.ref a), .val (.int x), .val (.int y), .val (.int (((0 : Int32) + (1 : Int32)) + (1 : Int32)))] [(.ref a), (.int (((0 : Int32) + (1 : Int32)) + (1 : Int32)))])) (fun t_ k_ => ?_) ?_
          · show Steps p.tables e below (T71.setTop (mkF m 61 #[.val (.ref a), .val (.int x), .val (.int y), .val (.int ((0 : Int32) + (1 : Int32)))] [])) t_
            refine XS.iinc X71.here hx rfl (hb hby d10_61) rfl (l' := #[.val (.ref a), .val (.int x), .val (.int y), .val (.int (((0 : Int32) + (1 : Int32)) + (1 : Int32)))]) rfl ?_
            show Steps p.tables e below (T71.setTop (mkF m 64 #[.val (.ref a), .val (.int x), .val (.int y), .val (.int (((0 : Int32) + (1 : Int32)) + (1 : Int32)))] [])) t_
            refine XS.goto X71.here hx rfl (pc0 := 64) (pc' := 36) rfl (hb hby d10_64) (by decide) (by decide) ?_
            show Steps p.tables e below (T71.setTop (mkF m 36 #[.val (.ref a), .val (.int x), .val (.int y), .val (.int (((0 : Int32) + (1 : Int32)) + (1 : Int32)))] [])) t_
            refine XS.iloadN X71.here hx rfl (hb hby d10_36) rfl ?_
            show Steps p.tables e below (T71.setTop (mkF m 37 #[.val (.ref a), .val (.int x), .val (.int y), .val (.int (((0 : Int32) + (1 : Int32)) + (1 : Int32)))] [(.int (((0 : Int32) + (1 : Int32)) + (1 : Int32)))])) t_
            refine XS.aloadN X71.here hx rfl (hb hby d10_37) rfl rfl ?_
            show Steps p.tables e below (T71.setTop (mkF m 38 #[.val (.ref a), .val (.int x), .val (.int y), .val (.int (((0 : Int32) + (1 : Int32)) + (1 : Int32)))] [(.ref a), (.int (((0 : Int32) + (1 : Int32)) + (1 : Int32)))])) t_
            exact k_
          obtain ⟨T72, X72, e72, st72⟩ := getF X71 hx hZ hown (host := "") (Or.inl (hw _ (List.mem_of_getElem? (i := 34) rfl))) Via.refl e71 H71.2.1.2.2.1 (g := (mkF m 38 #[.val (.ref a), .val (.int x), .val (.int y), .val (.int (((0 : Int32) + (1 : Int32)) + (1 : Int32)))] [(.ref a), (.int (((0 : Int32) + (1 : Int32)) + (1 : Int32)))])) rfl rfl (hb hby d10_38)
          refine Go.via st72 ?_
          show Go p.tables e below _ (T72.setTop (mkF m 41 #[.val (.ref a), .val (.int x), .val (.int y), .val (.int (((0 : Int32) + (1 : Int32)) + (1 : Int32)))] [(.int (2 : Int32)), (.int (((0 : Int32) + (1 : Int32)) + (1 : Int32)))]))
          refine Go.via (B := T72.setTop (mkF m 67 #[.val (.ref a), .val (.int x), .val (.int y), .val (.int (((0 : Int32) + (1 : Int32)) + (1 : Int32)))] [])) (fun t_ k_ => XS.icmpYes X72.here hx rfl (pc0 := 41) (pc' := 67) rfl (hb hby d10_41) rfl ((flt (by decide : ¬ (((0 : Int32) + (1 : Int32)) + (1 : Int32)) < (2 : Int32))).2.1) (by decide) (by decide) k_) ?_
          exact Go.leave X72 hlk (v := none) (fun _ => rfl) (fun fs hr => X72.returnOut hx hrt (hb hby d10_67) hr) (by decide) (by decide) (⟨rfl, N71, _, _, FP.at e72 H71, (if_pos hr00).symm, (if_neg hr01).symm, (if_pos hr10).symm, (if_pos hr11).symm⟩)
        · refine Go.via (B := T69.setTop (mkF m 61 #[.val (.ref a), .val (.int x), .val (.int y), .val (.int ((0 : Int32) + (1 : Int32)))] [])) (fun t_ k_ => XS.icmpYes X69.here hx rfl (pc0 := 51) (pc' := 61) rfl (hb hby d10_51) rfl ((feq hr11).2) (by decide) (by decide) k_) ?_
          refine Go.via (B := T69.setTop (mkF m 38 #[.val (.ref a), .val (.int x), .val (.int y), .val (.int (((0 : Int32) + (1 : Int32)) + (1 : Int32)))] [(.ref a), (.int (((0 : Int32) + (1 : Int32)) + (1 : Int32)))])) (fun t_ k_ => ?_) ?_
          · show Steps p.tables e below (T69.setTop (mkF m 61 #[.val (.ref a), .val (.int x), .val (.int y), .val (.int ((0 : Int32) + (1 : Int32)))] [])) t_
            refine XS.iinc X69.here hx rfl (hb hby d10_61) rfl (l' := #[.val (.ref a), .val (.int x), .val (.int y), .val (.int (((0 : Int32) + (1 : Int32)) + (1 : Int32)))]) rfl ?_
            show Steps p.tables e below (T69.setTop (mkF m 64 #[.val (.ref a), .val (.int x), .val (.int y), .val (.int (((0 : Int32) + (1 : Int32)) + (1 : Int32)))] [])) t_
            refine XS.goto X69.here hx rfl (pc0 := 64) (pc' := 36) rfl (hb hby d10_64) (by decide) (by decide) ?_
            show Steps p.tables e below (T69.setTop (mkF m 36 #[.val (.ref a), .val (.int x), .val (.int y), .val (.int (((0 : Int32) + (1 : Int32)) + (1 : Int32)))] [])) t_
            refine XS.iloadN X69.here hx rfl (hb hby d10_36) rfl ?_
            show Steps p.tables e below (T69.setTop (mkF m 37 #[.val (.ref a), .val (.int x), .val (.int y), .val (.int (((0 : Int32) + (1 : Int32)) + (1 : Int32)))] [(.int (((0 : Int32) + (1 : Int32)) + (1 : Int32)))])) t_
            refine XS.aloadN X69.here hx rfl (hb hby d10_37) rfl rfl ?_
            show Steps p.tables e below (T69.setTop (mkF m 38 #[.val (.ref a), .val (.int x), .val (.int y), .val (.int (((0 : Int32) + (1 : Int32)) + (1 : Int32)))] [(.ref a), (.int (((0 : Int32) + (1 : Int32)) + (1 : Int32)))])) t_
            exact k_
          obtain ⟨T73, X73, e73, st73⟩ := getF X69 hx hZ hown (host := "") (Or.inl (hw _ (List.mem_of_getElem? (i := 34) rfl))) Via.refl e69 H67.2.1.2.2.1 (g := (mkF m 38 #[.val (.ref a), .val (.int x), .val (.int y), .val (.int (((0 : Int32) + (1 : Int32)) + (1 : Int32)))] [(.ref a), (.int (((0 : Int32) + (1 : Int32)) + (1 : Int32)))])) rfl rfl (hb hby d10_38)
          refine Go.via st73 ?_
          show Go p.tables e below _ (T73.setTop (mkF m 41 #[.val (.ref a), .val (.int x), .val (.int y), .val (.int (((0 : Int32) + (1 : Int32)) + (1 : Int32)))] [(.int (2 : Int32)), (.int (((0 : Int32) + (1 : Int32)) + (1 : Int32)))]))
          refine Go.via (B := T73.setTop (mkF m 67 #[.val (.ref a), .val (.int x), .val (.int y), .val (.int (((0 : Int32) + (1 : Int32)) + (1 : Int32)))] [])) (fun t_ k_ => XS.icmpYes X73.here hx rfl (pc0 := 41) (pc' := 67) rfl (hb hby d10_41) rfl ((flt (by decide : ¬ (((0 : Int32) + (1 : Int32)) + (1 : Int32)) < (2 : Int32))).2.1) (by decide) (by decide) k_) ?_
          exact Go.leave X73 hlk (v := none) (fun _ => rfl) (fun fs hr => X73.returnOut hx hrt (hb hby d10_67) hr) (by decide) (by decide) (⟨rfl, N67, _, _, FP.at e73 H67, (if_pos hr00).symm, (if_neg hr01).symm, (if_pos hr10).symm, (if_neg hr11).symm⟩)
      · refine Go.via (B := T65.setTop (mkF m 61 #[.val (.ref a), .val (.int x), .val (.int y), .val (.int (0 : Int32))] [])) (fun t_ k_ => XS.icmpYes X65.here hx rfl (pc0 := 51) (pc' := 61) rfl (hb hby d10_51) rfl ((feq hr10).2) (by decide) (by decide) k_) ?_
        refine Go.via (B := T65.setTop (mkF m 38 #[.val (.ref a), .val (.int x), .val (.int y), .val (.int ((0 : Int32) + (1 : Int32)))] [(.ref a), (.int ((0 : Int32) + (1 : Int32)))])) (fun t_ k_ => ?_) ?_
        · show Steps p.tables e below (T65.setTop (mkF m 61 #[.val (.ref a), .val (.int x), .val (.int y), .val (.int (0 : Int32))] [])) t_
          refine XS.iinc X65.here hx rfl (hb hby d10_61) rfl (l' := #[.val (.ref a), .val (.int x), .val (.int y), .val (.int ((0 : Int32) + (1 : Int32)))]) rfl ?_
          show Steps p.tables e below (T65.setTop (mkF m 64 #[.val (.ref a), .val (.int x), .val (.int y), .val (.int ((0 : Int32) + (1 : Int32)))] [])) t_
          refine XS.goto X65.here hx rfl (pc0 := 64) (pc' := 36) rfl (hb hby d10_64) (by decide) (by decide) ?_
          show Steps p.tables e below (T65.setTop (mkF m 36 #[.val (.ref a), .val (.int x), .val (.int y), .val (.int ((0 : Int32) + (1 : Int32)))] [])) t_
          refine XS.iloadN X65.here hx rfl (hb hby d10_36) rfl ?_
          show Steps p.tables e below (T65.setTop (mkF m 37 #[.val (.ref a), .val (.int x), .val (.int y), .val (.int ((0 : Int32) + (1 : Int32)))] [(.int ((0 : Int32) + (1 : Int32)))])) t_
          refine XS.aloadN X65.here hx rfl (hb hby d10_37) rfl rfl ?_
          show Steps p.tables e below (T65.setTop (mkF m 38 #[.val (.ref a), .val (.int x), .val (.int y), .val (.int ((0 : Int32) + (1 : Int32)))] [(.ref a), (.int ((0 : Int32) + (1 : Int32)))])) t_
          exact k_
        obtain ⟨T74, X74, e74, st74⟩ := getF X65 hx hZ hown (host := "") (Or.inl (hw _ (List.mem_of_getElem? (i := 34) rfl))) Via.refl e65 H41.2.1.2.2.1 (g := (mkF m 38 #[.val (.ref a), .val (.int x), .val (.int y), .val (.int ((0 : Int32) + (1 : Int32)))] [(.ref a), (.int ((0 : Int32) + (1 : Int32)))])) rfl rfl (hb hby d10_38)
        refine Go.via st74 ?_
        show Go p.tables e below _ (T74.setTop (mkF m 41 #[.val (.ref a), .val (.int x), .val (.int y), .val (.int ((0 : Int32) + (1 : Int32)))] [(.int (2 : Int32)), (.int ((0 : Int32) + (1 : Int32)))]))
        refine Go.via (B := T74.setTop (mkF m 44 #[.val (.ref a), .val (.int x), .val (.int y), .val (.int ((0 : Int32) + (1 : Int32)))] [])) (fun t_ k_ => XS.icmpNo X74.here hx rfl (hb hby d10_41) rfl ((tlt (by decide : ((0 : Int32) + (1 : Int32)) < (2 : Int32))).2.1) k_) ?_
        refine Go.via (B := T74.setTop (mkF m 45 #[.val (.ref a), .val (.int x), .val (.int y), .val (.int ((0 : Int32) + (1 : Int32)))] [(.ref a)])) (fun t_ k_ => ?_) ?_
        · show Steps p.tables e below (T74.setTop (mkF m 44 #[.val (.ref a), .val (.int x), .val (.int y), .val (.int ((0 : Int32) + (1 : Int32)))] [])) t_
          refine XS.aloadN X74.here hx rfl (hb hby d10_44) rfl rfl ?_
          show Steps p.tables e below (T74.setTop (mkF m 45 #[.val (.ref a), .val (.int x), .val (.int y), .val (.int ((0 : Int32) + (1 : Int32)))] [(.ref a)])) t_
          exact k_
        obtain ⟨T75, X75, e75, st75⟩ := getF X74 hx hZ hown (host := "") (Or.inl (hw _ (List.mem_of_getElem? (i := 18) rfl))) Via.refl e74 H41.2.1.2.1 (g := (mkF m 45 #[.val (.ref a), .val (.int x), .val (.int y), .val (.int ((0 : Int32) + (1 : Int32)))] [(.ref a)])) rfl rfl (hb hby d10_45)
        refine Go.via st75 ?_
        show Go p.tables e below _ (T75.setTop (mkF m 48 #[.val (.ref a), .val (.int x), .val (.int y), .val (.int ((0 : Int32) + (1 : Int32)))] [(.ref sa)]))
        refine Go.via (B := T75.setTop (mkF m 49 #[.val (.ref a), .val (.int x), .val (.int y), .val (.int ((0 : Int32) + (1 : Int32)))] [(.int ((0 : Int32) + (1 : Int32))), (.ref sa)])) (fun t_ k_ => ?_) ?_
        · show Steps p.tables e below (T75.setTop (mkF m 48 #[.val (.ref a), .val (.int x), .val (.int y), .val (.int ((0 : Int32) + (1 : Int32)))] [(.ref sa)])) t_
          refine XS.iloadN X75.here hx rfl (hb hby d10_48) rfl ?_
          show Steps p.tables e below (T75.setTop (mkF m 49 #[.val (.ref a), .val (.int x), .val (.int y), .val (.int ((0 : Int32) + (1 : Int32)))] [(.int ((0 : Int32) + (1 : Int32))), (.ref sa)])) t_
          exact k_
        refine Go.via (B := T75.setTop (mkF m 50 #[.val (.ref a), .val (.int x), .val (.int y), .val (.int ((0 : Int32) + (1 : Int32)))] [(.int (sf 1))])) (fun t_ k_ => agetI X75 hx hZ e75 H41.2.2.2.1 (by decide) (by decide) (g := (mkF m 49 #[.val (.ref a), .val (.int x), .val (.int y), .val (.int ((0 : Int32) + (1 : Int32)))] [(.int ((0 : Int32) + (1 : Int32))), (.ref sa)])) rfl rfl (hb hby d10_49) t_ k_) ?_
        refine Go.via (B := T75.setTop (mkF m 51 #[.val (.ref a), .val (.int x), .val (.int y), .val (.int ((0 : Int32) + (1 : Int32)))] [(.int x), (.int (sf 1))])) (fun t_ k_ => ?_) ?_
        · show Steps p.tables e below (T75.setTop (mkF m 50 #[.val (.ref a), .val (.int x), .val (.int y), .val (.int ((0 : Int32) + (1 : Int32)))] [(.int (sf 1))])) t_
          refine XS.iloadN X75.here hx rfl (hb hby d10_50) rfl ?_
          show Steps p.tables e below (T75.setTop (mkF m 51 #[.val (.ref a), .val (.int x), .val (.int y), .val (.int ((0 : Int32) + (1 : Int32)))] [(.int x), (.int (sf 1))])) t_
          exact k_
        by_cases hr11 : (sf 1) = x
        · refine Go.via (B := T75.setTop (mkF m 54 #[.val (.ref a), .val (.int x), .val (.int y), .val (.int ((0 : Int32) + (1 : Int32)))] [])) (fun t_ k_ => XS.icmpNo X75.here hx rfl (hb hby d10_51) rfl ((teq hr11).2) k_) ?_
          refine Go.via (B := T75.setTop (mkF m 55 #[.val (.ref a), .val (.int x), .val (.int y), .val (.int ((0 : Int32) + (1 : Int32)))] [(.ref a)])) (fun t_ k_ => ?_) ?_
          · show Steps p.tables e below (T75.setTop (mkF m 54 #[.val (.ref a), .val (.int x), .val (.int y), .val (.int ((0 : Int32) + (1 : Int32)))] [])) t_
            refine XS.aloadN X75.here hx rfl (hb hby d10_54) rfl rfl ?_
            show Steps p.tables e below (T75.setTop (mkF m 55 #[.val (.ref a), .val (.int x), .val (.int y), .val (.int ((0 : Int32) + (1 : Int32)))] [(.ref a)])) t_
            exact k_
          obtain ⟨T76, X76, e76, st76⟩ := getF X75 hx hZ hown (host := "") (Or.inl (hw _ (List.mem_of_getElem? (i := 18) rfl))) Via.refl e75 H41.2.1.2.1 (g := (mkF m 55 #[.val (.ref a), .val (.int x), .val (.int y), .val (.int ((0 : Int32) + (1 : Int32)))] [(.ref a)])) rfl rfl (hb hby d10_55)
          refine Go.via st76 ?_
          show Go p.tables e below _ (T76.setTop (mkF m 58 #[.val (.ref a), .val (.int x), .val (.int y), .val (.int ((0 : Int32) + (1 : Int32)))] [(.ref sa)]))
          refine Go.via (B := T76.setTop (mkF m 60 #[.val (.ref a), .val (.int x), .val (.int y), .val (.int ((0 : Int32) + (1 : Int32)))] [(.int y), (.int ((0 : Int32) + (1 : Int32))), (.ref sa)])) (fun t_ k_ => ?_) ?_
          · show Steps p.tables e below (T76.setTop (mkF m 58 #[.val (.ref a), .val (.int x), .val (.int y), .val (.int ((0 : Int32) + (1 : Int32)))] [(.ref sa)])) t_
            refine XS.iloadN X76.here hx rfl (hb hby d10_58) rfl ?_
            show Steps p.tables e below (T76.setTop (mkF m 59 #[.val (.ref a), .val (.int x), .val (.int y), .val (.int ((0 : Int32) + (1 : Int32)))] [(.int ((0 : Int32) + (1 : Int32))), (.ref sa)])) t_
            refine XS.iloadN X76.here hx rfl (hb hby d10_59) rfl ?_
            show Steps p.tables e below (T76.setTop (mkF m 60 #[.val (.ref a), .val (.int x), .val (.int y), .val (.int ((0 : Int32) + (1 : Int32)))] [(.int y), (.int ((0 : Int32) + (1 : Int32))), (.ref sa)])) t_
            exact k_
          obtain ⟨T77, h77, L77, X77, e77, N77, W77, V77, st77⟩ := aputI X76 hx hZ e76 H41.2.2.2.1 N41 gs (by decide) (by decide) (g := (mkF m 60 #[.val (.ref a), .val (.int x), .val (.int y), .val (.int ((0 : Int32) + (1 : Int32)))] [(.int y), (.int ((0 : Int32) + (1 : Int32))), (.ref sa)])) rfl rfl (hb hby d10_60)
          have H77 := H41.storeS W77 V77
          have Z77 := H77.ge ga
          clear W77 V77
          refine Go.via st77 ?_
          show Go p.tables e below _ (T77.setTop (mkF m 61 #[.val (.ref a), .val (.int x), .val (.int y), .val (.int ((0 : Int32) + (1 : Int32)))] []))
          refine Go.via (B := T77.setTop (mkF m 38 #[.val (.ref a), .val (.int x), .val (.int y), .val (.int (((0 : Int32) + (1 : Int32)) + (1 : Int32)))] [(.ref a), (.int (((0 : Int32) + (1 : Int32)) + (1 : Int32)))])) (fun t_ k_ => ?_) ?_
          · show Steps p.tables e below (T77.setTop (mkF m 61 #[.val (.ref a), .val (.int x), .val (.int y), .val (.int ((0 : Int32) + (1 : Int32)))] [])) t_
            refine XS.iinc X77.here hx rfl (hb hby d10_61) rfl (l' := #[.val (.ref a), .val (.int x), .val (.int y), .val (.int (((0 : Int32) + (1 : Int32)) + (1 : Int32)))]) rfl ?_
            show Steps p.tables e below (T77.setTop (mkF m 64 #[.val (.ref a), .val (.int x), .val (.int y), .val (.int (((0 : Int32) + (1 : Int32)) + (1 : Int32)))] [])) t_
            refine XS.goto X77.here hx rfl (pc0 := 64) (pc' := 36) rfl (hb hby d10_64) (by decide) (by decide) ?_
            show Steps p.tables e below (T77.setTop (mkF m 36 #[.val (.ref a), .val (.int x), .val (.int y), .val (.int (((0 : Int32) + (1 : Int32)) + (1 : Int32)))] [])) t_
            refine XS.iloadN X77.here hx rfl (hb hby d10_36) rfl ?_
            show Steps p.tables e below (T77.setTop (mkF m 37 #[.val (.ref a), .val (.int x), .val (.int y), .val (.int (((0 : Int32) + (1 : Int32)) + (1 : Int32)))] [(.int (((0 : Int32) + (1 : Int32)) + (1 : Int32)))])) t_
            refine XS.aloadN X77.here hx rfl (hb hby d10_37) rfl rfl ?_
            show Steps p.tables e below (T77.setTop (mkF m 38 #[.val (.ref a), .val (.int x), .val (.int y), .val (.int (((0 : Int32) + (1 : Int32)) + (1 : Int32)))] [(.ref a), (.int (((0 : Int32) + (1 : Int32)) + (1 : Int32)))])) t_
            exact k_
          obtain ⟨T78, X78, e78, st78⟩ := getF X77 hx hZ hown (host := "") (Or.inl (hw _ (List.mem_of_getElem? (i := 34) rfl))) Via.refl e77 H77.2.1.2.2.1 (g := (mkF m 38 #[.val (.ref a), .val (.int x), .val (.int y), .val (.int (((0 : Int32) + (1 : Int32)) + (1 : Int32)))] [(.ref a), (.int (((0 : Int32) + (1 : Int32)) + (1 : Int32)))])) rfl rfl (hb hby d10_38)
          refine Go.via st78 ?_
          show Go p.tables e below _ (T78.setTop (mkF m 41 #[.val (.ref a), .val (.int x), .val (.int y), .val (.int (((0 : Int32) + (1 : Int32)) + (1 : Int32)))] [(.int (2 : Int32)), (.int (((0 : Int32) + (1 : Int32)) + (1 : Int32)))]))
          refine Go.via (B := T78.setTop (mkF m 67 #[.val (.ref a), .val (.int x), .val (.int y), .val (.int (((0 : Int32) + (1 : Int32)) + (1 : Int32)))] [])) (fun t_ k_ => XS.icmpYes X78.here hx rfl (pc0 := 41) (pc' := 67) rfl (hb hby d10_41) rfl ((flt (by decide : ¬ (((0 : Int32) + (1 : Int32)) + (1 : Int32)) < (2 : Int32))).2.1) (by decide) (by decide) k_) ?_
          exact Go.leave X78 hlk (v := none) (fun _ => rfl) (fun fs hr => X78.returnOut hx hrt (hb hby d10_67) hr) (by decide) (by decide) (⟨rfl, N77, _, _, FP.at e78 H77, (if_pos hr00).symm, (if_neg hr01).symm, (if_neg hr10).symm, (if_pos hr11).symm⟩)
        · refine Go.via (B := T75.setTop (mkF m 61 #[.val (.ref a), .val (.int x), .val (.int y), .val (.int ((0 : Int32) + (1 : Int32)))] [])) (fun t_ k_ => XS.icmpYes X75.here hx rfl (pc0 := 51) (pc' := 61) rfl (hb hby d10_51) rfl ((feq hr11).2) (by decide) (by decide) k_) ?_
          refine Go.via (B := T75.setTop (mkF m 38 #[.val (.ref a), .val (.int x), .val (.int y), .val (.int (((0 : Int32) + (1 : Int32)) + (1 : Int32)))] [(.ref a), (.int (((0 : Int32) + (1 : Int32)) + (1 : Int32)))])) (fun t_ k_ => ?_) ?_
          · show Steps p.tables e below (T75.setTop (mkF m 61 #[.val (.ref a), .val (.int x), .val (.int y), .val (.int ((0 : Int32) + (1 : Int32)))] [])) t_
            refine XS.iinc X75.here hx rfl (hb hby d10_61) rfl (l' := #[.val (.ref a), .val (.int x), .val (.int y), .val (.int (((0 : Int32) + (1 : Int32)) + (1 : Int32)))]) rfl ?_
            show Steps p.tables e below (T75.setTop (mkF m 64 #[.val (.ref a), .val (.int x), .val (.int y), .val (.int (((0 : Int32) + (1 : Int32)) + (1 : Int32)))] [])) t_
            refine XS.goto X75.here hx rfl (pc0 := 64) (pc' := 36) rfl (hb hby d10_64) (by decide) (by decide) ?_
            show Steps p.tables e below (T75.setTop (mkF m 36 #[.val (.ref a), .val (.int x), .val (.int y), .val (.int (((0 : Int32) + (1 : Int32)) + (1 : Int32)))] [])) t_
            refine XS.iloadN X75.here hx rfl (hb hby d10_36) rfl ?_
            show Steps p.tables e below (T75.setTop (mkF m 37 #[.val (.ref a), .val (.int x), .val (.int y), .val (.int (((0 : Int32) + (1 : Int32)) + (1 : Int32)))] [(.int (((0 : Int32) + (1 : Int32)) + (1 : Int32)))])) t_
            refine XS.aloadN X75.here hx rfl (hb hby d10_37) rfl rfl ?_
            show Steps p.tables e below (T75.setTop (mkF m 38 #[.val (.ref a), .val (.int x), .val (.int y), .val (.int (((0 : Int32) + (1 : Int32)) + (1 : Int32)))] [(.ref a), (.int (((0 : Int32) + (1 : Int32)) + (1 : Int32)))])) t_
            exact k_
          obtain ⟨T79, X79, e79, st79⟩ := getF X75 hx hZ hown (host := "") (Or.inl (hw _ (List.mem_of_getElem? (i := 34) rfl))) Via.refl e75 H41.2.1.2.2.1 (g := (mkF m 38 #[.val (.ref a), .val (.int x), .val (.int y), .val (.int (((0 : Int32) + (1 : Int32)) + (1 : Int32)))] [(.ref a), (.int (((0 : Int32) + (1 : Int32)) + (1 : Int32)))])) rfl rfl (hb hby d10_38)
          refine Go.via st79 ?_
          show Go p.tables e below _ (T79.setTop (mkF m 41 #[.val (.ref a), .val (.int x), .val (.int y), .val (.int (((0 : Int32) + (1 : Int32)) + (1 : Int32)))] [(.int (2 : Int32)), (.int (((0 : Int32) + (1 : Int32)) + (1 : Int32)))]))
          refine Go.via (B := T79.setTop (mkF m 67 #[.val (.ref a), .val (.int x), .val (.int y), .val (.int (((0 : Int32) + (1 : Int32)) + (1 : Int32)))] [])) (fun t_ k_ => XS.icmpYes X79.here hx rfl (pc0 := 41) (pc' := 67) rfl (hb hby d10_41) rfl ((flt (by decide : ¬ (((0 : Int32) + (1 : Int32)) + (1 : Int32)) < (2 : Int32))).2.1) (by decide) (by decide) k_) ?_
          exact Go.leave X79 hlk (v := none) (fun _ => rfl) (fun fs hr => X79.returnOut hx hrt (hb hby d10_67) hr) (by decide) (by decide) (⟨rfl, N41, _, _, FP.at e79 H41, (if_pos hr00).symm, (if_neg hr01).symm, (if_neg hr10).symm, (if_neg hr11).symm⟩)
  · refine Go.via (B := T39.setTop (mkF m 28 #[.val (.ref a), .val (.int x), .val (.int y), .val (.int (0 : Int32))] [])) (fun t_ k_ => XS.icmpYes X39.here hx rfl (pc0 := 18) (pc' := 28) rfl (hb hby d10_18) rfl ((feq hr00).2) (by decide) (by decide) k_) ?_
    refine Go.via (B := T39.setTop (mkF m 4 #[.val (.ref a), .val (.int x), .val (.int y), .val (.int ((0 : Int32) + (1 : Int32)))] [(.ref a), (.int ((0 : Int32) + (1 : Int32)))])) (fun t_ k_ => ?_) ?_
    · show Steps p.tables e below (T39.setTop (mkF m 28 #[.val (.ref a), .val (.int x), .val (.int y), .val (.int (0 : Int32))] [])) t_
      refine XS.iinc X39.here hx rfl (hb hby d10_28) rfl (l' := #[.val (.ref a), .val (.int x), .val (.int y), .val (.int ((0 : Int32) + (1 : Int32)))]) rfl ?_
      show Steps p.tables e below (T39.setTop (mkF m 31 #[.val (.ref a), .val (.int x), .val (.int y), .val (.int ((0 : Int32) + (1 : Int32)))] [])) t_
      refine XS.goto X39.here hx rfl (pc0 := 31) (pc' := 2) rfl (hb hby d10_31) (by decide) (by decide) ?_
      show Steps p.tables e below (T39.setTop (mkF m 2 #[.val (.ref a), .val (.int x), .val (.int y), .val (.int ((0 : Int32) + (1 : Int32)))] [])) t_
      refine XS.iloadN X39.here hx rfl (hb hby d10_2) rfl ?_
      show Steps p.tables e below (T39.setTop (mkF m 3 #[.val (.ref a), .val (.int x), .val (.int y), .val (.int ((0 : Int32) + (1 : Int32)))] [(.int ((0 : Int32) + (1 : Int32)))])) t_
      refine XS.aloadN X39.here hx rfl (hb hby d10_3) rfl rfl ?_
      show Steps p.tables e below (T39.setTop (mkF m 4 #[.val (.ref a), .val (.int x), .val (.int y), .val (.int ((0 : Int32) + (1 : Int32)))] [(.ref a), (.int ((0 : Int32) + (1 : Int32)))])) t_
      exact k_
    obtain ⟨T80, X80, e80, st80⟩ := getF X39 hx hZ hown (host := "") (Or.inl (hw _ (List.mem_of_getElem? (i := 14) rfl))) Via.refl e39 H.2.1.1 (g := (mkF m 4 #[.val (.ref a), .val (.int x), .val (.int y), .val (.int ((0 : Int32) + (1 : Int32)))] [(.ref a), (.int ((0 : Int32) + (1 : Int32)))])) rfl rfl (hb hby d10_4)
    refine Go.via st80 ?_
    show Go p.tables e below _ (T80.setTop (mkF m 7 #[.val (.ref a), .val (.int x), .val (.int y), .val (.int ((0 : Int32) + (1 : Int32)))] [(.ref la), (.int ((0 : Int32) + (1 : Int32)))]))
    refine Go.via (B := T80.setTop (mkF m 8 #[.val (.ref a), .val (.int x), .val (.int y), .val (.int ((0 : Int32) + (1 : Int32)))] [(.int (2 : Int32)), (.int ((0 : Int32) + (1 : Int32)))])) (fun t_ k_ => alen X80 hx hZ e80 H.2.2.1 (g := (mkF m 7 #[.val (.ref a), .val (.int x), .val (.int y), .val (.int ((0 : Int32) + (1 : Int32)))] [(.ref la), (.int ((0 : Int32) + (1 : Int32)))])) rfl rfl (hb hby d10_7) t_ k_) ?_
    refine Go.via (B := T80.setTop (mkF m 11 #[.val (.ref a), .val (.int x), .val (.int y), .val (.int ((0 : Int32) + (1 : Int32)))] [])) (fun t_ k_ => XS.icmpNo X80.here hx rfl (hb hby d10_8) rfl ((tlt (by decide : ((0 : Int32) + (1 : Int32)) < (2 : Int32))).2.1) k_) ?_
    refine Go.via (B := T80.setTop (mkF m 12 #[.val (.ref a), .val (.int x), .val (.int y), .val (.int ((0 : Int32) + (1 : Int32)))] [(.ref a)])) (fun t_ k_ => ?_) ?_
    · show Steps p.tables e below (T80.setTop (mkF m 11 #[.val (.ref a), .val (.int x), .val (.int y), .val (.int ((0 : Int32) + (1 : Int32)))] [])) t_
      refine XS.aloadN X80.here hx rfl (hb hby d10_11) rfl rfl ?_
      show Steps p.tables e below (T80.setTop (mkF m 12 #[.val (.ref a), .val (.int x), .val (.int y), .val (.int ((0 : Int32) + (1 : Int32)))] [(.ref a)])) t_
      exact k_
    obtain ⟨T81, X81, e81, st81⟩ := getF X80 hx hZ hown (host := "") (Or.inl (hw _ (List.mem_of_getElem? (i := 14) rfl))) Via.refl e80 H.2.1.1 (g := (mkF m 12 #[.val (.ref a), .val (.int x), .val (.int y), .val (.int ((0 : Int32) + (1 : Int32)))] [(.ref a)])) rfl rfl (hb hby d10_12)
    refine Go.via st81 ?_
    show Go p.tables e below _ (T81.setTop (mkF m 15 #[.val (.ref a), .val (.int x), .val (.int y), .val (.int ((0 : Int32) + (1 : Int32)))] [(.ref la)]))
    refine Go.via (B := T81.setTop (mkF m 16 #[.val (.ref a), .val (.int x), .val (.int y), .val (.int ((0 : Int32) + (1 : Int32)))] [(.int ((0 : Int32) + (1 : Int32))), (.ref la)])) (fun t_ k_ => ?_) ?_
    · show Steps p.tables e below (T81.setTop (mkF m 15 #[.val (.ref a), .val (.int x), .val (.int y), .val (.int ((0 : Int32) + (1 : Int32)))] [(.ref la)])) t_
      refine XS.iloadN X81.here hx rfl (hb hby d10_15) rfl ?_
      show Steps p.tables e below (T81.setTop (mkF m 16 #[.val (.ref a), .val (.int x), .val (.int y), .val (.int ((0 : Int32) + (1 : Int32)))] [(.int ((0 : Int32) + (1 : Int32))), (.ref la)])) t_
      exact k_
    refine Go.via (B := T81.setTop (mkF m 17 #[.val (.ref a), .val (.int x), .val (.int y), .val (.int ((0 : Int32) + (1 : Int32)))] [(.int (lf 1))])) (fun t_ k_ => agetI X81 hx hZ e81 H.2.2.1 (by decide) (by decide) (g := (mkF m 16 #[.val (.ref a), .val (.int x), .val (.int y), .val (.int ((0 : Int32) + (1 : Int32)))] [(.int ((0 : Int32) + (1 : Int32))), (.ref la)])) rfl rfl (hb hby d10_16) t_ k_) ?_
    refine Go.via (B := T81.setTop (mkF m 18 #[.val (.ref a), .val (.int x), .val (.int y), .val (.int ((0 : Int32) + (1 : Int32)))] [(.int x), (.int (lf 1))])) (fun t_ k_ => ?_) ?_
    · show Steps p.tables e below (T81.setTop (mkF m 17 #[.val (.ref a), .val (.int x), .val (.int y), .val (.int ((0 : Int32) + (1 : Int32)))] [(.int (lf 1))])) t_
      refine XS.iloadN X81.here hx rfl (hb hby d10_17) rfl ?_
      show Steps p.tables e below (T81.setTop (mkF m 18 #[.val (.ref a), .val (.int x), .val (.int y), .val (.int ((0 : Int32) + (1 : Int32)))] [(.int x), (.int (lf 1))])) t_
      exact k_
    by_cases hr01 : (lf 1) = x
    · refine Go.via (B := T81.setTop (mkF m 21 #[.val (.ref a), .val (.int x), .val (.int y), .val (.int ((0 : Int32) + (1 : Int32)))] [])) (fun t_ k_ => XS.icmpNo X81.here hx rfl (hb hby d10_18) rfl ((teq hr01).2) k_) ?_
      refine Go.via (B := T81.setTop (mkF m 22 #[.val (.ref a), .val (.int x), .val (.int y), .val (.int ((0 : Int32) + (1 : Int32)))] [(.ref a)])) (fun t_ k_ => ?_) ?_
      · show Steps p.tables e below (T81.setTop (mkF m 21 #[.val (.ref a), .val (.int x), .val (.int y), .val (.int ((0 : Int32) + (1 : Int32)))] [])) t_
        refine XS.aloadN X81.here hx rfl (hb hby d10_21) rfl rfl ?_
        show Steps p.tables e below (T81.setTop (mkF m 22 #[.val (.ref a), .val (.int x), .val (.int y), .val (.int ((0 : Int32) + (1 : Int32)))] [(.ref a)])) t_
        exact k_
      obtain ⟨T82, X82, e82, st82⟩ := getF X81 hx hZ hown (host := "") (Or.inl (hw _ (List.mem_of_getElem? (i := 14) rfl))) Via.refl e81 H.2.1.1 (g := (mkF m 22 #[.val (.ref a), .val (.int x), .val (.int y), .val (.int ((0 : Int32) + (1 : Int32)))] [(.ref a)])) rfl rfl (hb hby d10_22)
      refine Go.via st82 ?_
      show Go p.tables e below _ (T82.setTop (mkF m 25 #[.val (.ref a), .val (.int x), .val (.int y), .val (.int ((0 : Int32) + (1 : Int32)))] [(.ref la)]))
      refine Go.via (B := T82.setTop (mkF m 27 #[.val (.ref a), .val (.int x), .val (.int y), .val (.int ((0 : Int32) + (1 : Int32)))] [(.int y), (.int ((0 : Int32) + (1 : Int32))), (.ref la)])) (fun t_ k_ => ?_) ?_
      · show Steps p.tables e below (T82.setTop (mkF m 25 #[.val (.ref a), .val (.int x), .val (.int y), .val (.int ((0 : Int32) + (1 : Int32)))] [(.ref la)])) t_
        refine XS.iloadN X82.here hx rfl (hb hby d10_25) rfl ?_
        show Steps p.tables e below (T82.setTop (mkF m 26 #[.val (.ref a), .val (.int x), .val (.int y), .val (.int ((0 : Int32) + (1 : Int32)))] [(.int ((0 : Int32) + (1 : Int32))), (.ref la)])) t_
        refine XS.iloadN X82.here hx rfl (hb hby d10_26) rfl ?_
        show Steps p.tables e below (T82.setTop (mkF m 27 #[.val (.ref a), .val (.int x), .val (.int y), .val (.int ((0 : Int32) + (1 : Int32)))] [(.int y), (.int ((0 : Int32) + (1 : Int32))), (.ref la)])) t_
        exact k_
      obtain ⟨T83, h83, L83, X83, e83, N83, W83, V83, st83⟩ := aputI X82 hx hZ e82 H.2.2.1 N0 gl (by decide) (by decide) (g := (mkF m 27 #[.val (.ref a), .val (.int x), .val (.int y), .val (.int ((0 : Int32) + (1 : Int32)))] [(.int y), (.int ((0 : Int32) + (1 : Int32))), (.ref la)])) rfl rfl (hb hby d10_27)
      have H83 := H.storeL W83 V83
      have Z83 := H83.ge ga
      clear W83 V83
      refine Go.via st83 ?_
      show Go p.tables e below _ (T83.setTop (mkF m 28 #[.val (.ref a), .val (.int x), .val (.int y), .val (.int ((0 : Int32) + (1 : Int32)))] []))
      refine Go.via (B := T83.setTop (mkF m 4 #[.val (.ref a), .val (.int x), .val (.int y), .val (.int (((0 : Int32) + (1 : Int32)) + (1 : Int32)))] [(.ref a), (.int (((0 : Int32) + (1 : Int32)) + (1 : Int32)))])) (fun t_ k_ => ?_) ?_
      · show Steps p.tables e below (T83.setTop (mkF m 28 #[.val (.ref a), .val (.int x), .val (.int y), .val (.int ((0 : Int32) + (1 : Int32)))] [])) t_
        refine XS.iinc X83.here hx rfl (hb hby d10_28) rfl (l' := #[.val (.ref a), .val (.int x), .val (.int y), .val (.int (((0 : Int32) + (1 : Int32)) + (1 : Int32)))]) rfl ?_
        show Steps p.tables e below (T83.setTop (mkF m 31 #[.val (.ref a), .val (.int x), .val (.int y), .val (.int (((0 : Int32) + (1 : Int32)) + (1 : Int32)))] [])) t_
        refine XS.goto X83.here hx rfl (pc0 := 31) (pc' := 2) rfl (hb hby d10_31) (by decide) (by decide) ?_
        show Steps p.tables e below (T83.setTop (mkF m 2 #[.val (.ref a), .val (.int x), .val (.int y), .val (.int (((0 : Int32) + (1 : Int32)) + (1 : Int32)))] [])) t_
        refine XS.iloadN X83.here hx rfl (hb hby d10_2) rfl ?_
        show Steps p.tables e below (T83.setTop (mkF m 3 #[.val (.ref a), .val (.int x), .val (.int y), .val (.int (((0 : Int32) + (1 : Int32)) + (1 : Int32)))] [(.int (((0 : Int32) + (1 : Int32)) + (1 : Int32)))])) t_
        refine XS.aloadN X83.here hx rfl (hb hby d10_3) rfl rfl ?_
        show Steps p.tables e below (T83.setTop (mkF m 4 #[.val (.ref a), .val (.int x), .val (.int y), .val (.int (((0 : Int32) + (1 : Int32)) + (1 : Int32)))] [(.ref a), (.int (((0 : Int32) + (1 : Int32)) + (1 : Int32)))])) t_
        exact k_
      obtain ⟨T84, X84, e84, st84⟩ := getF X83 hx hZ hown (host := "") (Or.inl (hw _ (List.mem_of_getElem? (i := 14) rfl))) Via.refl e83 H83.2.1.1 (g := (mkF m 4 #[.val (.ref a), .val (.int x), .val (.int y), .val (.int (((0 : Int32) + (1 : Int32)) + (1 : Int32)))] [(.ref a), (.int (((0 : Int32) + (1 : Int32)) + (1 : Int32)))])) rfl rfl (hb hby d10_4)
      refine Go.via st84 ?_
      show Go p.tables e below _ (T84.setTop (mkF m 7 #[.val (.ref a), .val (.int x), .val (.int y), .val (.int (((0 : Int32) + (1 : Int32)) + (1 : Int32)))] [(.ref la), (.int (((0 : Int32) + (1 : Int32)) + (1 : Int32)))]))
      refine Go.via (B := T84.setTop (mkF m 8 #[.val (.ref a), .val (.int x), .val (.int y), .val (.int (((0 : Int32) + (1 : Int32)) + (1 : Int32)))] [(.int (2 : Int32)), (.int (((0 : Int32) + (1 : Int32)) + (1 : Int32)))])) (fun t_ k_ => alen X84 hx hZ e84 H83.2.2.1 (g := (mkF m 7 #[.val (.ref a), .val (.int x), .val (.int y), .val (.int (((0 : Int32) + (1 : Int32)) + (1 : Int32)))] [(.ref la), (.int (((0 : Int32) + (1 : Int32)) + (1 : Int32)))])) rfl rfl (hb hby d10_7) t_ k_) ?_
      refine Go.via (B := T84.setTop (mkF m 34 #[.val (.ref a), .val (.int x), .val (.int y), .val (.int (((0 : Int32) + (1 : Int32)) + (1 : Int32)))] [])) (fun t_ k_ => XS.icmpYes X84.here hx rfl (pc0 := 8) (pc' := 34) rfl (hb hby d10_8) rfl ((flt (by decide : ¬ (((0 : Int32) + (1 : Int32)) + (1 : Int32)) < (2 : Int32))).2.1) (by decide) (by decide) k_) ?_
      refine Go.via (B := T84.setTop (mkF m 38 #[.val (.ref a), .val (.int x), .val (.int y), .val (.int (0 : Int32))] [(.ref a), (.int (0 : Int32))])) (fun t_ k_ => ?_) ?_
      · show Steps p.tables e below (T84.setTop (mkF m 34 #[.val (.ref a), .val (.int x), .val (.int y), .val (.int (((0 : Int32) + (1 : Int32)) + (1 : Int32)))] [])) t_
        refine XS.iconst X84.here hx rfl (hb hby d10_34) ?_
        show Steps p.tables e below (T84.setTop (mkF m 35 #[.val (.ref a), .val (.int x), .val (.int y), .val (.int (((0 : Int32) + (1 : Int32)) + (1 : Int32)))] [(.int (0 : Int32))])) t_
        refine XS.istoreN X84.here hx rfl (hb hby d10_35) rfl (l' := #[.val (.ref a), .val (.int x), .val (.int y), .val (.int (0 : Int32))]) rfl ?_
        show Steps p.tables e below (T84.setTop (mkF m 36 #[.val (.ref a), .val (.int x), .val (.int y), .val (.int (0 : Int32))] [])) t_
        refine XS.iloadN X84.here hx rfl (hb hby d10_36) rfl ?_
        show Steps p.tables e below (T84.setTop (mkF m 37 #[.val (.ref a), .val (.int x), .val (.int y), .val (.int (0 : Int32))] [(.int (0 : Int32))])) t_
        refine XS.aloadN X84.here hx rfl (hb hby d10_37) rfl rfl ?_
        show Steps p.tables e below (T84.setTop (mkF m 38 #[.val (.ref a), .val (.int x), .val (.int y), .val (.int (0 : Int32))] [(.ref a), (.int (0 : Int32))])) t_
        exact k_
      obtain ⟨T85, X85, e85, st85⟩ := getF X84 hx hZ hown (host := "") (Or.inl (hw _ (List.mem_of_getElem? (i := 34) rfl))) Via.refl e84 H83.2.1.2.2.1 (g := (mkF m 38 #[.val (.ref a), .val (.int x), .val (.int y), .val (.int (0 : Int32))] [(.ref a), (.int (0 : Int32))])) rfl rfl (hb hby d10_38)
      refine Go.via st85 ?_
      show Go p.tables e below _ (T85.setTop (mkF m 41 #[.val (.ref a), .val (.int x), .val (.int y), .val (.int (0 : Int32))] [(.int (2 : Int32)), (.int (0 : Int32))]))
      refine Go.via (B := T85.setTop (mkF m 44 #[.val (.ref a), .val (.int x), .val (.int y), .val (.int (0 : Int32))] [])) (fun t_ k_ => XS.icmpNo X85.here hx rfl (hb hby d10_41) rfl ((tlt (by decide : (0 : Int32) < (2 : Int32))).2.1) k_) ?_
      refine Go.via (B := T85.setTop (mkF m 45 #[.val (.ref a), .val (.int x), .val (.int y), .val (.int (0 : Int32))] [(.ref a)])) (fun t_ k_ => ?_) ?_
      · show Steps p.tables e below (T85.setTop (mkF m 44 #[.val (.ref a), .val (.int x), .val (.int y), .val (.int (0 : Int32))] [])) t_
        refine XS.aloadN X85.here hx rfl (hb hby d10_44) rfl rfl ?_
        show Steps p.tables e below (T85.setTop (mkF m 45 #[.val (.ref a), .val (.int x), .val (.int y), .val (.int (0 : Int32))] [(.ref a)])) t_
        exact k_
      obtain ⟨T86, X86, e86, st86⟩ := getF X85 hx hZ hown (host := "") (Or.inl (hw _ (List.mem_of_getElem? (i := 18) rfl))) Via.refl e85 H83.2.1.2.1 (g := (mkF m 45 #[.val (.ref a), .val (.int x), .val (.int y), .val (.int (0 : Int32))] [(.ref a)])) rfl rfl (hb hby d10_45)
      refine Go.via st86 ?_
      show Go p.tables e below _ (T86.setTop (mkF m 48 #[.val (.ref a), .val (.int x), .val (.int y), .val (.int (0 : Int32))] [(.ref sa)]))
      refine Go.via (B := T86.setTop (mkF m 49 #[.val (.ref a), .val (.int x), .val (.int y), .val (.int (0 : Int32))] [(.int (0 : Int32)), (.ref sa)])) (fun t_ k_ => ?_) ?_
      · show Steps p.tables e below (T86.setTop (mkF m 48 #[.val (.ref a), .val (.int x), .val (.int y), .val (.int (0 : Int32))] [(.ref sa)])) t_
        refine XS.iloadN X86.here hx rfl (hb hby d10_48) rfl ?_
        show Steps p.tables e below (T86.setTop (mkF m 49 #[.val (.ref a), .val (.int x), .val (.int y), .val (.int (0 : Int32))] [(.int (0 : Int32)), (.ref sa)])) t_
        exact k_
      refine Go.via (B := T86.setTop (mkF m 50 #[.val (.ref a), .val (.int x), .val (.int y), .val (.int (0 : Int32))] [(.int (sf 0))])) (fun t_ k_ => agetI X86 hx hZ e86 H83.2.2.2.1 (by decide) (by decide) (g := (mkF m 49 #[.val (.ref a), .val (.int x), .val (.int y), .val (.int (0 : Int32))] [(.int (0 : Int32)), (.ref sa)])) rfl rfl (hb hby d10_49) t_ k_) ?_
      refine Go.via (B := T86.setTop (mkF m 51 #[.val (.ref a), .val (.int x), .val (.int y), .val (.int (0 : Int32))] [(.int x), (.int (sf 0))])) (fun t_ k_ => ?_) ?_
      · show Steps p.tables e below (T86.setTop (mkF m 50 #[.val (.ref a), .val (.int x), .val (.int y), .val (.int (0 : Int32))] [(.int (sf 0))])) t_
        refine XS.iloadN X86.here hx rfl (hb hby d10_50) rfl ?_
        show Steps p.tables e below (T86.setTop (mkF m 51 #[.val (.ref a), .val (.int x), .val (.int y), .val (.int (0 : Int32))] [(.int x), (.int (sf 0))])) t_
        exact k_
      by_cases hr10 : (sf 0) = x
      · refine Go.via (B := T86.setTop (mkF m 54 #[.val (.ref a), .val (.int x), .val (.int y), .val (.int (0 : Int32))] [])) (fun t_ k_ => XS.icmpNo X86.here hx rfl (hb hby d10_51) rfl ((teq hr10).2) k_) ?_
        refine Go.via (B := T86.setTop (mkF m 55 #[.val (.ref a), .val (.int x), .val (.int y), .val (.int (0 : Int32))] [(.ref a)])) (fun t_ k_ => ?_) ?_
        · show Steps p.tables e below (T86.setTop (mkF m 54 #[.val (.ref a), .val (.int x), .val (.int y), .val (.int (0 : Int32))] [])) t_
          refine XS.aloadN X86.here hx rfl (hb hby d10_54) rfl rfl ?_
          show Steps p.tables e below (T86.setTop (mkF m 55 #[.val (.ref a), .val (.int x), .val (.int y), .val (.int (0 : Int32))] [(.ref a)])) t_
          exact k_
        obtain ⟨T87, X87, e87, st87⟩ := getF X86 hx hZ hown (host := "") (Or.inl (hw _ (List.mem_of_getElem? (i := 18) rfl))) Via.refl e86 H83.2.1.2.1 (g := (mkF m 55 #[.val (.ref a), .val (.int x), .val (.int y), .val (.int (0 : Int32))] [(.ref a)])) rfl rfl (hb hby d10_55)
        refine Go.via st87 ?_
        show Go p.tables e below _ (T87.setTop (mkF m 58 #[.val (.ref a), .val (.int x), .val (.int y), .val (.int (0 : Int32))] [(.ref sa)]))
        refine Go.via (B := T87.setTop (mkF m 60 #[.val (.ref a), .val (.int x), .val (.int y), .val (.int (0 : Int32))] [(.int y), (.int (0 : Int32)), (.ref sa)])) (fun t_ k_ => ?_) ?_
        · show Steps p.tables e below (T87.setTop (mkF m 58 #[.val (.ref a), .val (.int x), .val (.int y), .val (.int (0 : Int32))] [(.ref sa)])) t_
          refine XS.iloadN X87.here hx rfl (hb hby d10_58) rfl ?_
          show Steps p.tables e below (T87.setTop (mkF m 59 #[.val (.ref a), .val (.int x), .val (.int y), .val (.int (0 : Int32))] [(.int (0 : Int32)), (.ref sa)])) t_
          refine XS.iloadN X87.here hx rfl (hb hby d10_59) rfl ?_
          show Steps p.tables e below (T87.setTop (mkF m 60 #[.val (.ref a), .val (.int x), .val (.int y), .val (.int (0 : Int32))] [(.int y), (.int (0 : Int32)), (.ref sa)])) t_
          exact k_
        obtain ⟨T88, h88, L88, X88, e88, N88, W88, V88, st88⟩ := aputI X87 hx hZ e87 H83.2.2.2.1 N83 gs (by decide) (by decide) (g := (mkF m 60 #[.val (.ref a), .val (.int x), .val (.int y), .val (.int (0 : Int32))] [(.int y), (.int (0 : Int32)), (.ref sa)])) rfl rfl (hb hby d10_60)
        have H88 := H83.storeS W88 V88
        have Z88 := H88.ge ga
        clear W88 V88
        refine Go.via st88 ?_
        show Go p.tables e below _ (T88.setTop (mkF m 61 #[.val (.ref a), .val (.int x), .val (.int y), .val (.int (0 : Int32))] []))
        refine Go.via (B := T88.setTop (mkF m 38 #[.val (.ref a), .val (.int x), .val (.int y), .val (.int ((0 : Int32) + (1 : Int32)))] [(.ref a), (.int ((0 : Int32) + (1 : Int32)))])) (fun t_ k_ => ?_) ?_
        · show Steps p.tables e below (T88.setTop (mkF m 61 #[.val (.ref a), .val (.int x), .val (.int y), .val (.int (0 : Int32))] [])) t_
          refine XS.iinc X88.here hx rfl (hb hby d10_61) rfl (l' := #[.val (.ref a), .val (.int x), .val (.int y), .val (.int ((0 : Int32) + (1 : Int32)))]) rfl ?_
          show Steps p.tables e below (T88.setTop (mkF m 64 #[.val (.ref a), .val (.int x), .val (.int y), .val (.int ((0 : Int32) + (1 : Int32)))] [])) t_
          refine XS.goto X88.here hx rfl (pc0 := 64) (pc' := 36) rfl (hb hby d10_64) (by decide) (by decide) ?_
          show Steps p.tables e below (T88.setTop (mkF m 36 #[.val (.ref a), .val (.int x), .val (.int y), .val (.int ((0 : Int32) + (1 : Int32)))] [])) t_
          refine XS.iloadN X88.here hx rfl (hb hby d10_36) rfl ?_
          show Steps p.tables e below (T88.setTop (mkF m 37 #[.val (.ref a), .val (.int x), .val (.int y), .val (.int ((0 : Int32) + (1 : Int32)))] [(.int ((0 : Int32) + (1 : Int32)))])) t_
          refine XS.aloadN X88.here hx rfl (hb hby d10_37) rfl rfl ?_
          show Steps p.tables e below (T88.setTop (mkF m 38 #[.val (.ref a), .val (.int x), .val (.int y), .val (.int ((0 : Int32) + (1 : Int32)))] [(.ref a), (.int ((0 : Int32) + (1 : Int32)))])) t_
          exact k_
        obtain ⟨T89, X89, e89, st89⟩ := getF X88 hx hZ hown (host := "") (Or.inl (hw _ (List.mem_of_getElem? (i := 34) rfl))) Via.refl e88 H88.2.1.2.2.1 (g := (mkF m 38 #[.val (.ref a), .val (.int x), .val (.int y), .val (.int ((0 : Int32) + (1 : Int32)))] [(.ref a), (.int ((0 : Int32) + (1 : Int32)))])) rfl rfl (hb hby d10_38)
        refine Go.via st89 ?_
        show Go p.tables e below _ (T89.setTop (mkF m 41 #[.val (.ref a), .val (.int x), .val (.int y), .val (.int ((0 : Int32) + (1 : Int32)))] [(.int (2 : Int32)), (.int ((0 : Int32) + (1 : Int32)))]))
        refine Go.via (B := T89.setTop (mkF m 44 #[.val (.ref a), .val (.int x), .val (.int y), .val (.int ((0 : Int32) + (1 : Int32)))] [])) (fun t_ k_ => XS.icmpNo X89.here hx rfl (hb hby d10_41) rfl ((tlt (by decide : ((0 : Int32) + (1 : Int32)) < (2 : Int32))).2.1) k_) ?_
        refine Go.via (B := T89.setTop (mkF m 45 #[.val (.ref a), .val (.int x), .val (.int y), .val (.int ((0 : Int32) + (1 : Int32)))] [(.ref a)])) (fun t_ k_ => ?_) ?_
        · show Steps p.tables e below (T89.setTop (mkF m 44 #[.val (.ref a), .val (.int x), .val (.int y), .val (.int ((0 : Int32) + (1 : Int32)))] [])) t_
          refine XS.aloadN X89.here hx rfl (hb hby d10_44) rfl rfl ?_
          show Steps p.tables e below (T89.setTop (mkF m 45 #[.val (.ref a), .val (.int x), .val (.int y), .val (.int ((0 : Int32) + (1 : Int32)))] [(.ref a)])) t_
          exact k_
        obtain ⟨T90, X90, e90, st90⟩ := getF X89 hx hZ hown (host := "") (Or.inl (hw _ (List.mem_of_getElem? (i := 18) rfl))) Via.refl e89 H88.2.1.2.1 (g := (mkF m 45 #[.val (.ref a), .val (.int x), .val (.int y), .val (.int ((0 : Int32) + (1 : Int32)))] [(.ref a)])) rfl rfl (hb hby d10_45)
        refine Go.via st90 ?_
        show Go p.tables e below _ (T90.setTop (mkF m 48 #[.val (.ref a), .val (.int x), .val (.int y), .val (.int ((0 : Int32) + (1 : Int32)))] [(.ref sa)]))
        refine Go.via (B := T90.setTop (mkF m 49 #[.val (.ref a), .val (.int x), .val (.int y), .val (.int ((0 : Int32) + (1 : Int32)))] [(.int ((0 : Int32) + (1 : Int32))), (.ref sa)])) (fun t_ k_ => ?_) ?_
        · show Steps p.tables e below (T90.setTop (mkF m 48 #[.val (.ref a), .val (.int x), .val (.int y), .val (.int ((0 : Int32) + (1 : Int32)))] [(.ref sa)])) t_
          refine XS.iloadN X90.here hx rfl (hb hby d10_48) rfl ?_
          show Steps p.tables e below (T90.setTop (mkF m 49 #[.val (.ref a), .val (.int x), .val (.int y), .val (.int ((0 : Int32) + (1 : Int32)))] [(.int ((0 : Int32) + (1 : Int32))), (.ref sa)])) t_
          exact k_
        refine Go.via (B := T90.setTop (mkF m 50 #[.val (.ref a), .val (.int x), .val (.int y), .val (.int ((0 : Int32) + (1 : Int32)))] [(.int (sf 1))])) (fun t_ k_ => agetI X90 hx hZ e90 H88.2.2.2.1 (by decide) (by decide) (g := (mkF m 49 #[.val (.ref a), .val (.int x), .val (.int y), .val (.int ((0 : Int32) + (1 : Int32)))] [(.int ((0 : Int32) + (1 : Int32))), (.ref sa)])) rfl rfl (hb hby d10_49) t_ k_) ?_
        refine Go.via (B := T90.setTop (mkF m 51 #[.val (.ref a), .val (.int x), .val (.int y), .val (.int ((0 : Int32) + (1 : Int32)))] [(.int x), (.int (sf 1))])) (fun t_ k_ => ?_) ?_
        · show Steps p.tables e below (T90.setTop (mkF m 50 #[.val (.ref a), .val (.int x), .val (.int y), .val (.int ((0 : Int32) + (1 : Int32)))] [(.int (sf 1))])) t_
          refine XS.iloadN X90.here hx rfl (hb hby d10_50) rfl ?_
          show Steps p.tables e below (T90.setTop (mkF m 51 #[.val (.ref a), .val (.int x), .val (.int y), .val (.int ((0 : Int32) + (1 : Int32)))] [(.int x), (.int (sf 1))])) t_
          exact k_
        by_cases hr11 : (sf 1) = x
        · refine Go.via (B := T90.setTop (mkF m 54 #[.val (.ref a), .val (.int x), .val (.int y), .val (.int ((0 : Int32) + (1 : Int32)))] [])) (fun t_ k_ => XS.icmpNo X90.here hx rfl (hb hby d10_51) rfl ((teq hr11).2) k_) ?_
          refine Go.via (B := T90.setTop (mkF m 55 #[.val (.ref a), .val (.int x), .val (.int y), .val (.int ((0 : Int32) + (1 : Int32)))] [(.ref a)])) (fun t_ k_ => ?_) ?_
          · show Steps p.tables e below (T90.setTop (mkF m 54 #[.val (.ref a), .val (.int x), .val (.int y), .val (.int ((0 : Int32) + (1 : Int32)))] [])) t_
            refine XS.aloadN X90.here hx rfl (hb hby d10_54) rfl rfl ?_
            show Steps p.tables e below (T90.setTop (mkF m 55 #[.val (.ref a), .val (.int x), .val (.int y), .val (.int ((0 : Int32) + (1 : Int32)))] [(.ref a)])) t_
            exact k_
          obtain ⟨T91, X91, e91, st91⟩ := getF X90 hx hZ hown (host := "") (Or.inl (hw _ (List.mem_of_getElem? (i := 18) rfl))) Via.refl e90 H88.2.1.2.1 (g := (mkF m 55 #[.val (.ref a), .val (.int x), .val (.int y), .val (.int ((0 : Int32) + (1 : Int32)))] [(.ref a)])) rfl rfl (hb hby d10_55)
          refine Go.via st91 ?_
          show Go p.tables e below _ (T91.setTop (mkF m 58 #[.val (.ref a), .val (.int x), .val (.int y), .val (.int ((0 : Int32) + (1 : Int32)))] [(.ref sa)]))
          refine Go.via (B := T91.setTop (mkF m 60 #[.val (.ref a), .val (.int x), .val (.int y), .val (.int ((0 : Int32) + (1 : Int32)))] [(.int y), (.int ((0 : Int32) + (1 : Int32))), (.ref sa)])) (fun t_ k_ => ?_) ?_
          · show Steps p.tables e below (T91.setTop (mkF m 58 #[.val (.ref a), .val (.int x), .val (.int y), .val (.int ((0 : Int32) + (1 : Int32)))] [(.ref sa)])) t_
            refine XS.iloadN X91.here hx rfl (hb hby d10_58) rfl ?_
            show Steps p.tables e below (T91.setTop (mkF m 59 #[.val (.ref a), .val (.int x), .val (.int y), .val (.int ((0 : Int32) + (1 : Int32)))] [(.int ((0 : Int32) + (1 : Int32))), (.ref sa)])) t_
            refine XS.iloadN X91.here hx rfl (hb hby d10_59) rfl ?_
            show Steps p.tables e below (T91.setTop (mkF m 60 #[.val (.ref a), .val (.int x), .val (.int y), .val (.int ((0 : Int32) + (1 : Int32)))] [(.int y), (.int ((0 : Int32) + (1 : Int32))), (.ref sa)])) t_
            exact k_
          obtain ⟨T92, h92, L92, X92, e92, N92, W92, V92, st92⟩ := aputI X91 hx hZ e91 H88.2.2.2.1 N88 gs (by decide) (by decide) (g := (mkF m 60 #[.val (.ref a), .val (.int x), .val (.int y), .val (.int ((0 : Int32) + (1 : Int32)))] [(.int y), (.int ((0 : Int32) + (1 : Int32))), (.ref sa)])) rfl rfl (hb hby d10_60)
          have H92 := H88.storeS W92 V92
          have Z92 := H92.ge ga
          clear W92 V92
          refine Go.via st92 ?_
          show Go p.tables e below _ (T92.setTop (mkF m 61 #[.val (.ref a), .val (.int x), .val (.int y), .val (.int ((0 : Int32) + (1 : Int32)))] []))
          refine Go.via (B := T92.setTop (mkF m 38 #[.val (.ref a), .val (.int x), .val (.int y), .val (.int (((0 : Int32) + (1 : Int32)) + (1 : Int32)))] [(.ref a), (.int (((0 : Int32) + (1 : Int32)) + (1 : Int32)))])) (fun t_ k_ => ?_) ?_
          · show Steps p.tables e below (T92.setTop (mkF m 61 #[.val (.ref a), .val (.int x), .val (.int y), .val (.int ((0 : Int32) + (1 : Int32)))] [])) t_
            refine XS.iinc X92.here hx rfl (hb hby d10_61) rfl (l' := #[.val (.ref a), .val (.int x), .val (.int y), .val (.int (((0 : Int32) + (1 : Int32)) + (1 : Int32)))]) rfl ?_
            show Steps p.tables e below (T92.setTop (mkF m 64 #[.val (.ref a), .val (.int x), .val (.int y), .val (.int (((0 : Int32) + (1 : Int32)) + (1 : Int32)))] [])) t_
            refine XS.goto X92.here hx rfl (pc0 := 64) (pc' := 36) rfl (hb hby d10_64) (by decide) (by decide) ?_
            show Steps p.tables e below (T92.setTop (mkF m 36 #[.val (.ref a), .val (.int x), .val (.int y), .val (.int (((0 : Int32) + (1 : Int32)) + (1 : Int32)))] [])) t_
            refine XS.iloadN X92.here hx rfl (hb hby d10_36) rfl ?_
            show Steps p.tables e below (T92.setTop (mkF m 37 #[.val (.ref a), .val (.int x), .val (.int y), .val (.int (((0 : Int32) + (1 : Int32)) + (1 : Int32)))] [(.int (((0 : Int32) + (1 : Int32)) + (1 : Int32)))])) t_
            refine XS.aloadN X92.here hx rfl (hb hby d10_37) rfl rfl ?_
            show Steps p.tables e below (T92.setTop (mkF m 38 #[.val (.ref a), .val (.int x), .val (.int y), .val (.int (((0 : Int32) + (1 : Int32)) + (1 : Int32)))] [(.ref a), (.int (((0 : Int32) + (1 : Int32)) + (1 : Int32)))])) t_
            exact k_
          obtain ⟨T93, X93, e93, st93⟩ := getF X92 hx hZ hown (host := "") (Or.inl (hw _ (List.mem_of_getElem? (i := 34) rfl))) Via.refl e92 H92.2.1.2.2.1 (g := (mkF m 38 #[.val (.ref a), .val (.int x), .val (.int y), .val (.int (((0 : Int32) + (1 : Int32)) + (1 : Int32)))] [(.ref a), (.int (((0 : Int32) + (1 : Int32)) + (1 : Int32)))])) rfl rfl (hb hby d10_38)
          refine Go.via st93 ?_
          show Go p.tables e below _ (T93.setTop (mkF m 41 #[.val (.ref a), .val (.int x), .val (.int y), .val (.int (((0 : Int32) + (1 : Int32)) + (1 : Int32)))] [(.int (2 : Int32)), (.int (((0 : Int32) + (1 : Int32)) + (1 : Int32)))]))
          refine Go.via (B := T93.setTop (mkF m 67 #[.val (.ref a), .val (.int x), .val (.int y), .val (.int (((0 : Int32) + (1 : Int32)) + (1 : Int32)))] [])) (fun t_ k_ => XS.icmpYes X93.here hx rfl (pc0 := 41) (pc' := 67) rfl (hb hby d10_41) rfl ((flt (by decide : ¬ (((0 : Int32) + (1 : Int32)) + (1 : Int32)) < (2 : Int32))).2.1) (by decide) (by decide) k_) ?_
          exact Go.leave X93 hlk (v := none) (fun _ => rfl) (fun fs hr => X93.returnOut hx hrt (hb hby d10_67) hr) (by decide) (by decide) (⟨rfl, N92, _, _, FP.at e93 H92, (if_neg hr00).symm, (if_pos hr01).symm, (if_pos hr10).symm, (if_pos hr11).symm⟩)
        · refine Go.via (B := T90.setTop (mkF m 61 #[.val (.ref a), .val (.int x), .val (.int y), .val (.int ((0 : Int32) + (1 : Int32)))] [])) (fun t_ k_ => XS.icmpYes X90.here hx rfl (pc0 := 51) (pc' := 61) rfl (hb hby d10_51) rfl ((feq hr11).2) (by decide) (by decide) k_) ?_
          refine Go.via (B := T90.setTop (mkF m 38 #[.val (.ref a), .val (.int x), .val (.int y), .val (.int (((0 : Int32) + (1 : Int32)) + (1 : Int32)))] [(.ref a), (.int (((0 : Int32) + (1 : Int32)) + (1 : Int32)))])) (fun t_ k_ => ?_) ?_
          · show Steps p.tables e below (T90.setTop (mkF m 61 #[.val (.ref a), .val (.int x), .val (.int y), .val (.int ((0 : Int32) + (1 : Int32)))] [])) t_
            refine XS.iinc X90.here hx rfl (hb hby d10_61) rfl (l' := #[.val (.ref a), .val (.int x), .val (.int y), .val (.int (((0 : Int32) + (1 : Int32)) + (1 : Int32)))]) rfl ?_
            show Steps p.tables e below (T90.setTop (mkF m 64 #[.val (.ref a), .val (.int x), .val (.int y), .val (.int (((0 : Int32) + (1 : Int32)) + (1 : Int32)))] [])) t_
            refine XS.goto X90.here hx rfl (pc0 := 64) (pc' := 36) rfl (hb hby d10_64) (by decide) (by decide) ?_
            show Steps p.tables e below (T90.setTop (mkF m 36 #[.val (.ref a), .val (.int x), .val (.int y), .val (.int (((0 : Int32) + (1 : Int32)) + (1 : Int32)))] [])) t_
            refine XS.iloadN X90.here hx rfl (hb hby d10_36) rfl ?_
            show Steps p.tables e below (T90.setTop (mkF m 37 #[.val (.ref a), .val (.int x), .val (.int y), .val (.int (((0 : Int32) + (1 : Int32)) + (1 : Int32)))] [(.int (((0 : Int32) + (1 : Int32)) + (1 : Int32)))])) t_
            refine XS.aloadN X90.here hx rfl (hb hby d10_37) rfl rfl ?_
            show Steps p.tables e below (T90.setTop (mkF m 38 #[.val (.ref a), .val (.int x), .val (.int y), .val (.int (((0 : Int32) + (1 : Int32)) + (1 : Int32)))] [(.ref a), (.int (((0 : Int32) + (1 : Int32)) + (1 : Int32)))])) t_
            exact k_
          obtain ⟨T94, X94, e94, st94⟩ := getF X90 hx hZ hown (host := "") (Or.inl (hw _ (List.mem_of_getElem? (i := 34) rfl))) Via.refl e90 H88.2.1.2.2.1 (g := (mkF m 38 #[.val (.ref a), .val (.int x), .val (.int y), .val (.int (((0 : Int32) + (1 : Int32)) + (1 : Int32)))] [(.ref a), (.int (((0 : Int32) + (1 : Int32)) + (1 : Int32)))])) rfl rfl (hb hby d10_38)
          refine Go.via st94 ?_
          show Go p.tables e below _ (T94.setTop (mkF m 41 #[.val (.ref a), .val (.int x), .val (.int y), .val (.int (((0 : Int32) + (1 : Int32)) + (1 : Int32)))] [(.int (2 : Int32)), (.int (((0 : Int32) + (1 : Int32)) + (1 : Int32)))]))
          refine Go.via (B := T94.setTop (mkF m 67 #[.val (.ref a), .val (.int x), .val (.int y), .val (.int (((0 : Int32) + (1 : Int32)) + (1 : Int32)))] [])) (fun t_ k_ => XS.icmpYes X94.here hx rfl (pc0 := 41) (pc' := 67) rfl (hb hby d10_41) rfl ((flt (by decide : ¬ (((0 : Int32) + (1 : Int32)) + (1 : Int32)) < (2 : Int32))).2.1) (by decide) (by decide) k_) ?_
          exact Go.leave X94 hlk (v := none) (fun _ => rfl) (fun fs hr => X94.returnOut hx hrt (hb hby d10_67) hr) (by decide) (by decide) (⟨rfl, N88, _, _, FP.at e94 H88, (if_neg hr00).symm, (if_pos hr01).symm, (if_pos hr10).symm, (if_neg hr11).symm⟩)
      · refine Go.via (B := T86.setTop (mkF m 61 #[.val (.ref a), .val (.int x), .val (.int y), .val (.int (0 : Int32))] [])) (fun t_ k_ => XS.icmpYes X86.here hx rfl (pc0 := 51) (pc' := 61) rfl (hb hby d10_51) rfl ((feq hr10).2) (by decide) (by decide) k_) ?_
        refine Go.via (B := T86.setTop (mkF m 38 #[.val (.ref a), .val (.int x), .val (.int y), .val (.int ((0 : Int32) + (1 : Int32)))] [(.ref a), (.int ((0 : Int32) + (1 : Int32)))])) (fun t_ k_ => ?_) ?_
        · show Steps p.tables e below (T86.setTop (mkF m 61 #[.val (.ref a), .val (.int x), .val (.int y), .val (.int (0 : Int32))] [])) t_
          refine XS.iinc X86.here hx rfl (hb hby d10_61) rfl (l' := #[.val (.ref a), .val (.int x), .val (.int y), .val (.int ((0 : Int32) + (1 : Int32)))]) rfl ?_
          show Steps p.tables e below (T86.setTop (mkF m 64 #[.val (.ref a), .val (.int x), .val (.int y), .val (.int ((0 : Int32) + (1 : Int32)))] [])) t_
          refine XS.goto X86.here hx rfl (pc0 := 64) (pc' := 36) rfl (hb hby d10_64) (by decide) (by decide) ?_
          show Steps p.tables e below (T86.setTop (mkF m 36 #[.val (.ref a), .val (.int x), .val (.int y), .val (.int ((0 : Int32) + (1 : Int32)))] [])) t_
          refine XS.iloadN X86.here hx rfl (hb hby d10_36) rfl ?_
          show Steps p.tables e below (T86.setTop (mkF m 37 #[.val (.ref a), .val (.int x), .val (.int y), .val (.int ((0 : Int32) + (1 : Int32)))] [(.int ((0 : Int32) + (1 : Int32)))])) t_
          refine XS.aloadN X86.here hx rfl (hb hby d10_37) rfl rfl ?_
          show Steps p.tables e below (T86.setTop (mkF m 38 #[.val (.ref a), .val (.int x), .val (.int y), .val (.int ((0 : Int32) + (1 : Int32)))] [(.ref a), (.int ((0 : Int32) + (1 : Int32)))])) t_
          exact k_
        obtain ⟨T95, X95, e95, st95⟩ := getF X86 hx hZ hown (host := "") (Or.inl (hw _ (List.mem_of_getElem? (i := 34) rfl))) Via.refl e86 H83.2.1.2.2.1 (g := (mkF m 38 #[.val (.ref a), .val (.int x), .val (.int y), .val (.int ((0 : Int32) + (1 : Int32)))] [(.ref a), (.int ((0 : Int32) + (1 : Int32)))])) rfl rfl (hb hby d10_38)
        refine Go.via st95 ?_
        show Go p.tables e below _ (T95.setTop (mkF m 41 #[.val (.ref a), .val (.int x), .val (.int y), .val (.int ((0 : Int32) + (1 : Int32)))] [(.int (2 : Int32)), (.int ((0 : Int32) + (1 : Int32)))]))
        refine Go.via (B := T95.setTop (mkF m 44 #[.val (.ref a), .val (.int x), .val (.int y), .val (.int ((0 : Int32) + (1 : Int32)))] [])) (fun t_ k_ => XS.icmpNo X95.here hx rfl (hb hby d10_41) rfl ((tlt (by decide : ((0 : Int32) + (1 : Int32)) < (2 : Int32))).2.1) k_) ?_
        refine Go.via (B := T95.setTop (mkF m 45 #[.val (.ref a), .val (.int x), .val (.int y), .val (.int ((0 : Int32) + (1 : Int32)))] [(.ref a)])) (fun t_ k_ => ?_) ?_
        · show Steps p.tables e below (T95.setTop (mkF m 44 #[.val (.ref a), .val (.int x), .val (.int y), .val (.int ((0 : Int32) + (1 : Int32)))] [])) t_
          refine XS.aloadN X95.here hx rfl (hb hby d10_44) rfl rfl ?_
          show Steps p.tables e below (T95.setTop (mkF m 45 #[.val (.ref a), .val (.int x), .val (.int y), .val (.int ((0 : Int32) + (1 : Int32)))] [(.ref a)])) t_
          exact k_
        obtain ⟨T96, X96, e96, st96⟩ := getF X95 hx hZ hown (host := "") (Or.inl (hw _ (List.mem_of_getElem? (i := 18) rfl))) Via.refl e95 H83.2.1.2.1 (g := (mkF m 45 #[.val (.ref a), .val (.int x), .val (.int y), .val (.int ((0 : Int32) + (1 : Int32)))] [(.ref a)])) rfl rfl (hb hby d10_45)
        refine Go.via st96 ?_
        show Go p.tables e below _ (T96.setTop (mkF m 48 #[.val (.ref a), .val (.int x), .val (.int y), .val (.int ((0 : Int32) + (1 : Int32)))] [(.ref sa)]))
        refine Go.via (B := T96.setTop (mkF m 49 #[.val (.ref a), .val (.int x), .val (.int y), .val (.int ((0 : Int32) + (1 : Int32)))] [(.int ((0 : Int32) + (1 : Int32))), (.ref sa)])) (fun t_ k_ => ?_) ?_
        · show Steps p.tables e below (T96.setTop (mkF m 48 #[.val (.ref a), .val (.int x), .val (.int y), .val (.int ((0 : Int32) + (1 : Int32)))] [(.ref sa)])) t_
          refine XS.iloadN X96.here hx rfl (hb hby d10_48) rfl ?_
          show Steps p.tables e below (T96.setTop (mkF m 49 #[.val (.ref a), .val (.int x), .val (.int y), .val (.int ((0 : Int32) + (1 : Int32)))] [(.int ((0 : Int32) + (1 : Int32))), (.ref sa)])) t_
          exact k_
        refine Go.via (B := T96.setTop (mkF m 50 #[.val (.ref a), .val (.int x), .val (.int y), .val (.int ((0 : Int32) + (1 : Int32)))] [(.int (sf 1))])) (fun t_ k_ => agetI X96 hx hZ e96 H83.2.2.2.1 (by decide) (by decide) (g := (mkF m 49 #[.val (.ref a), .val (.int x), .val (.int y), .val (.int ((0 : Int32) + (1 : Int32)))] [(.int ((0 : Int32) + (1 : Int32))), (.ref sa)])) rfl rfl (hb hby d10_49) t_ k_) ?_
        refine Go.via (B := T96.setTop (mkF m 51 #[.val (.ref a), .val (.int x), .val (.int y), .val (.int ((0 : Int32) + (1 : Int32)))] [(.int x), (.int (sf 1))])) (fun t_ k_ => ?_) ?_
        · show Steps p.tables e below (T96.setTop (mkF m 50 #[.val (.ref a), .val (.int x), .val (.int y), .val (.int ((0 : Int32) + (1 : Int32)))] [(.int (sf 1))])) t_
          refine XS.iloadN X96.here hx rfl (hb hby d10_50) rfl ?_
          show Steps p.tables e below (T96.setTop (mkF m 51 #[.val (.ref a), .val (.int x), .val (.int y), .val (.int ((0 : Int32) + (1 : Int32)))] [(.int x), (.int (sf 1))])) t_
          exact k_
        by_cases hr11 : (sf 1) = x
        · refine Go.via (B := T96.setTop (mkF m 54 #[.val (.ref a), .val (.int x), .val (.int y), .val (.int ((0 : Int32) + (1 : Int32)))] [])) (fun t_ k_ => XS.icmpNo X96.here hx rfl (hb hby d10_51) rfl ((teq hr11).2) k_) ?_
          refine Go.via (B := T96.setTop (mkF m 55 #[.val (.ref a), .val (.int x), .val (.int y), .val (.int ((0 : Int32) + (1 : Int32)))] [(.ref a)])) (fun t_ k_ => ?_) ?_
          · show Steps p.tables e below (T96.setTop (mkF m 54 #[.val (.ref a), .val (.int x), .val (.int y), .val (.int ((0 : Int32) + (1 : Int32)))] [])) t_
            refine XS.aloadN X96.here hx rfl (hb hby d10_54) rfl rfl ?_
            show Steps p.tables e below (T96.setTop (mkF m 55 #[.val (.ref a), .val (.int x), .val (.int y), .val (.int ((0 : Int32) + (1 : Int32)))] [(.ref a)])) t_
            exact k_
          obtain ⟨T97, X97, e97, st97⟩ := getF X96 hx hZ hown (host := "") (Or.inl (hw _ (List.mem_of_getElem? (i := 18) rfl))) Via.refl e96 H83.2.1.2.1 (g := (mkF m 55 #[.val (.ref a), .val (.int x), .val (.int y), .val (.int ((0 : Int32) + (1 : Int32)))] [(.ref a)])) rfl rfl (hb hby d10_55)
          refine Go.via st97 ?_
          show Go p.tables e below _ (T97.setTop (mkF m 58 #[.val (.ref a), .val (.int x), .val (.int y), .val (.int ((0 : Int32) + (1 : Int32)))] [(.ref sa)]))
          refine Go.via (B := T97.setTop (mkF m 60 #[.val (.ref a), .val (.int x), .val (.int y), .val (.int ((0 : Int32) + (1 : Int32)))] [(.int y), (.int ((0 : Int32) + (1 : Int32))), (.ref sa)])) (fun t_ k_ => ?_) ?_
          · show Steps p.tables e below (T97.setTop (mkF m 58 #[.val (.ref a), .val (.int x), .val (.int y), .val (.int ((0 : Int32) + (1 : Int32)))] [(.ref sa)])) t_
            refine XS.iloadN X97.here hx rfl (hb hby d10_58) rfl ?_
            show Steps p.tables e below (T97.setTop (mkF m 59 #[.val (.ref a), .val (.int x), .val (.int y), .val (.int ((0 : Int32) + (1 : Int32)))] [(.int ((0 : Int32) + (1 : Int32))), (.ref sa)])) t_
            refine XS.iloadN X97.here hx rfl (hb hby d10_59) rfl ?_
            show Steps p.tables e below (T97.setTop (mkF m 60 #[.val (.ref a), .val (.int x), .val (.int y), .val (.int ((0 : Int32) + (1 : Int32)))] [(.int y), (.int ((0 : Int32) + (1 : Int32))), (.ref sa)])) t_
            exact k_
          obtain ⟨T98, h98, L98, X98, e98, N98, W98, V98, st98⟩ := aputI X97 hx hZ e97 H83.2.2.2.1 N83 gs (by decide) (by decide) (g := (mkF m 60 #[.val (.ref a), .val (.int x), .val (.int y), .val (.int ((0 : Int32) + (1 : Int32)))] [(.int y), (.int ((0 : Int32) + (1 : Int32))), (.ref sa)])) rfl rfl (hb hby d10_60)
          have H98 := H83.storeS W98 V98
          have Z98 := H98.ge ga
          clear W98 V98
          refine Go.via st98 ?_
          show Go p.tables e below _ (T98.setTop (mkF m 61 #[.val (.ref a), .val (.int x), .val (.int y), .val (.int ((0 : Int32) + (1 : Int32)))] []))
          refine Go.via (B := T98.setTop (mkF m 38 #[.val (.ref a), .val (.int x), .val (.int y), .val (.int (((0 : Int32) + (1 : Int32)) + (1 : Int32)))] [(.ref a), (.int (((0 : Int32) + (1 : Int32)) + (1 : Int32)))])) (fun t_ k_ => ?_) ?_
          · show Steps p.tables e below (T98.setTop (mkF m 61 #[.val (.ref a), .val (.int x), .val (.int y), .val (.int ((0 : Int32) + (1 : Int32)))] [])) t_
            refine XS.iinc X98.here hx rfl (hb hby d10_61) rfl (l' := #[.val (.ref a), .val (.int x), .val (.int y), .val (.int (((0 : Int32) + (1 : Int32)) + (1 : Int32)))]) rfl ?_
            show Steps p.tables e below (T98.setTop (mkF m 64 #[.val (.ref a), .val (.int x), .val (.int y), .val (.int (((0 : Int32) + (1 : Int32)) + (1 : Int32)))] [])) t_
            refine XS.goto X98.here hx rfl (pc0 := 64) (pc' := 36) rfl (hb hby d10_64) (by decide) (by decide) ?_
            show Steps p.tables e below (T98.setTop (mkF m 36 #[.val (.ref a), .val (.int x), .val (.int y), .val (.int (((0 : Int32) + (1 : Int32)) + (1 : Int32)))] [])) t_
            refine XS.iloadN X98.here hx rfl (hb hby d10_36) rfl ?_
            show Steps p.tables e below (T98.setTop (mkF m 37 #[.val (.ref a), .val (.int x), .val (.int y), .val (.int (((0 : Int32) + (1 : Int32)) + (1 : Int32)))] [(.int (((0 : Int32) + (1 : Int32)) + (1 : Int32)))])) t_
            refine XS.aloadN X98.here hx rfl (hb hby d10_37) rfl rfl ?_
            show Steps p.tables e below (T98.setTop (mkF m 38 #[.val (.ref a), .val (.int x), .val (.int y), .val (.int (((0 : Int32) + (1 : Int32)) + (1 : Int32)))] [(.ref a), (.int (((0 : Int32) + (1 : Int32)) + (1 : Int32)))])) t_
            exact k_
          obtain ⟨T99, X99, e99, st99⟩ := getF X98 hx hZ hown (host := "") (Or.inl (hw _ (List.mem_of_getElem? (i := 34) rfl))) Via.refl e98 H98.2.1.2.2.1 (g := (mkF m 38 #[.val (.ref a), .val (.int x), .val (.int y), .val (.int (((0 : Int32) + (1 : Int32)) + (1 : Int32)))] [(.ref a), (.int (((0 : Int32) + (1 : Int32)) + (1 : Int32)))])) rfl rfl (hb hby d10_38)
          refine Go.via st99 ?_
          show Go p.tables e below _ (T99.setTop (mkF m 41 #[.val (.ref a), .val (.int x), .val (.int y), .val (.int (((0 : Int32) + (1 : Int32)) + (1 : Int32)))] [(.int (2 : Int32)), (.int (((0 : Int32) + (1 : Int32)) + (1 : Int32)))]))
          refine Go.via (B := T99.setTop (mkF m 67 #[.val (.ref a), .val (.int x), .val (.int y), .val (.int (((0 : Int32) + (1 : Int32)) + (1 : Int32)))] [])) (fun t_ k_ => XS.icmpYes X99.here hx rfl (pc0 := 41) (pc' := 67) rfl (hb hby d10_41) rfl ((flt (by decide : ¬ (((0 : Int32) + (1 : Int32)) + (1 : Int32)) < (2 : Int32))).2.1) (by decide) (by decide) k_) ?_
          exact Go.leave X99 hlk (v := none) (fun _ => rfl) (fun fs hr => X99.returnOut hx hrt (hb hby d10_67) hr) (by decide) (by decide) (⟨rfl, N98, _, _, FP.at e99 H98, (if_neg hr00).symm, (if_pos hr01).symm, (if_neg hr10).symm, (if_pos hr11).symm⟩)
        · refine Go.via (B := T96.setTop (mkF m 61 #[.val (.ref a), .val (.int x), .val (.int y), .val (.int ((0 : Int32) + (1 : Int32)))] [])) (fun t_ k_ => XS.icmpYes X96.here hx rfl (pc0 := 51) (pc' := 61) rfl (hb hby d10_51) rfl ((feq hr11).2) (by decide) (by decide) k_) ?_
          refine Go.via (B := T96.setTop (mkF m 38 #[.val (.ref a), .val (.int x), .val (.int y), .val (.int (((0 : Int32) + (1 : Int32)) + (1 : Int32)))] [(.ref a), (.int (((0 : Int32) + (1 : Int32)) + (1 : Int32)))])) (fun t_ k_ => ?_) ?_
          · show Steps p.tables e below (T96.setTop (mkF m 61 #[.val (.ref a), .val (.int x), .val (.int y), .val (.int ((0 : Int32) + (1 : Int32)))] [])) t_
            refine XS.iinc X96.here hx rfl (hb hby d10_61) rfl (l' := #[.val (.ref a), .val (.int x), .val (.int y), .val (.int (((0 : Int32) + (1 : Int32)) + (1 : Int32)))]) rfl ?_
            show Steps p.tables e below (T96.setTop (mkF m 64 #[.val (.ref a), .val (.int x), .val (.int y), .val (.int (((0 : Int32) + (1 : Int32)) + (1 : Int32)))] [])) t_
            refine XS.goto X96.here hx rfl (pc0 := 64) (pc' := 36) rfl (hb hby d10_64) (by decide) (by decide) ?_
            show Steps p.tables e below (T96.setTop (mkF m 36 #[.val (.ref a), .val (.int x), .val (.int y), .val (.int (((0 : Int32) + (1 : Int32)) + (1 : Int32)))] [])) t_
            refine XS.iloadN X96.here hx rfl (hb hby d10_36) rfl ?_
            show Steps p.tables e below (T96.setTop (mkF m 37 #[.val (.ref a), .val (.int x), .val (.int y), .val (.int (((0 : Int32) + (1 : Int32)) + (1 : Int32)))] [(.int (((0 : Int32) + (1 : Int32)) + (1 : Int32)))])) t_
            refine XS.aloadN X96.here hx rfl (hb hby d10_37) rfl rfl ?_
            show Steps p.tables e below (T96.setTop (mkF m 38 #[.val (.ref a), .val (.int x), .val (.int y), .val (.int (((0 : Int32) + (1 : Int32)) + (1 : Int32)))] [(.ref a), (.int (((0 : Int32) + (1 : Int32)) + (1 : Int32)))])) t_
            exact k_
          obtain ⟨T100, X100, e100, st100⟩ := getF X96 hx hZ hown (host := "") (Or.inl (hw _ (List.mem_of_getElem? (i := 34) rfl))) Via.refl e96 H83.2.1.2.2.1 (g := (mkF m 38 #[.val (.ref a), .val (.int x), .val (.int y), .val (.int (((0 : Int32) + (1 : Int32)) + (1 : Int32)))] [(.ref a), (.int (((0 : Int32) + (1 : Int32)) + (1 : Int32)))])) rfl rfl (hb hby d10_38)
          refine Go.via st100 ?_
          show Go p.tables e below _ (T100.setTop (mkF m 41 #[.val (.ref a), .val (.int x), .val (.int y), .val (.int (((0 : Int32) + (1 : Int32)) + (1 : Int32)))] [(.int (2 : Int32)), (.int (((0 : Int32) + (1 : Int32)) + (1 : Int32)))]))
          refine Go.via (B := T100.setTop (mkF m 67 #[.val (.ref a), .val (.int x), .val (.int y), .val (.int (((0 : Int32) + (1 : Int32)) + (1 : Int32)))] [])) (fun t_ k_ => XS.icmpYes X100.here hx rfl (pc0 := 41) (pc' := 67) rfl (hb hby d10_41) rfl ((flt (by decide : ¬ (((0 : Int32) + (1 : Int32)) + (1 : Int32)) < (2 : Int32))).2.1) (by decide) (by decide) k_) ?_
          exact Go.leave X100 hlk (v := none) (fun _ => rfl) (fun fs hr => X100.returnOut hx hrt (hb hby d10_67) hr) (by decide) (by decide) (⟨rfl, N83, _, _, FP.at e100 H83, (if_neg hr00).symm, (if_pos hr01).symm, (if_neg hr10).symm, (if_neg hr11).symm⟩)
    · refine Go.via (B := T81.setTop (mkF m 28 #[.val (.ref a), .val (.int x), .val (.int y), .val (.int ((0 : Int32) + (1 : Int32)))] [])) (fun t_ k_ => XS.icmpYes X81.here hx rfl (pc0 := 18) (pc' := 28) rfl (hb hby d10_18) rfl ((feq hr01).2) (by decide) (by decide) k_) ?_
      refine Go.via (B := T81.setTop (mkF m 4 #[.val (.ref a), .val (.int x), .val (.int y), .val (.int (((0 : Int32) + (1 : Int32)) + (1 : Int32)))] [(.ref a), (.int (((0 : Int32) + (1 : Int32)) + (1 : Int32)))])) (fun t_ k_ => ?_) ?_
      · show Steps p.tables e below (T81.setTop (mkF m 28 #[.val (.ref a), .val (.int x), .val (.int y), .val (.int ((0 : Int32) + (1 : Int32)))] [])) t_
        refine XS.iinc X81.here hx rfl (hb hby d10_28) rfl (l' := #[.val (.ref a), .val (.int x), .val (.int y), .val (.int (((0 : Int32) + (1 : Int32)) + (1 : Int32)))]) rfl ?_
        show Steps p.tables e below (T81.setTop (mkF m 31 #[.val (.ref a), .val (.int x), .val (.int y), .val (.int (((0 : Int32) + (1 : Int32)) + (1 : Int32)))] [])) t_
        refine XS.goto X81.here hx rfl (pc0 := 31) (pc' := 2) rfl (hb hby d10_31) (by decide) (by decide) ?_
        show Steps p.tables e below (T81.setTop (mkF m 2 #[.val (.ref a), .val (.int x), .val (.int y), .val (.int (((0 : Int32) + (1 : Int32)) + (1 : Int32)))] [])) t_
        refine XS.iloadN X81.here hx rfl (hb hby d10_2) rfl ?_
        show Steps p.tables e below (T81.setTop (mkF m 3 #[.val (.ref a), .val (.int x), .val (.int y), .val (.int (((0 : Int32) + (1 : Int32)) + (1 : Int32)))] [(.int (((0 : Int32) + (1 : Int32)) + (1 : Int32)))])) t_
        refine XS.aloadN X81.here hx rfl (hb hby d10_3) rfl rfl ?_
        show Steps p.tables e below (T81.setTop (mkF m 4 #[.val (.ref a), .val (.int x), .val (.int y), .val (.int (((0 : Int32) + (1 : Int32)) + (1 : Int32)))] [(.ref a), (.int (((0 : Int32) + (1 : Int32)) + (1 : Int32)))])) t_
        exact k_
      obtain ⟨T101, X101, e101, st101⟩ := getF X81 hx hZ hown (host := "") (Or.inl (hw _ (List.mem_of_getElem? (i := 14) rfl))) Via.refl e81 H.2.1.1 (g := (mkF m 4 #[.val (.ref a), .val (.int x), .val (.int y), .val (.int (((0 : Int32) + (1 : Int32)) + (1 : Int32)))] [(.ref a), (.int (((0 : Int32) + (1 : Int32)) + (1 : Int32)))])) rfl rfl (hb hby d10_4)
      refine Go.via st101 ?_
      show Go p.tables e below _ (T101.setTop (mkF m 7 #[.val (.ref a), .val (.int x), .val (.int y), .val (.int (((0 : Int32) + (1 : Int32)) + (1 : Int32)))] [(.ref la), (.int (((0 : Int32) + (1 : Int32)) + (1 : Int32)))]))
      refine Go.via (B := T101.setTop (mkF m 8 #[.val (.ref a), .val (.int x), .val (.int y), .val (.int (((0 : Int32) + (1 : Int32)) + (1 : Int32)))] [(.int (2 : Int32)), (.int (((0 : Int32) + (1 : Int32)) + (1 : Int32)))])) (fun t_ k_ => alen X101 hx hZ e101 H.2.2.1 (g := (mkF m 7 #[.val (.ref a), .val (.int x), .val (.int y), .val (.int (((0 : Int32) + (1 : Int32)) + (1 : Int32)))] [(.ref la), (.int (((0 : Int32) + (1 : Int32)) + (1 : Int32)))])) rfl rfl (hb hby d10_7) t_ k_) ?_
      refine Go.via (B := T101.setTop (mkF m 34 #[.val (.ref a), .val (.int x), .val (.int y), .val (.int (((0 : Int32) + (1 : Int32)) + (1 : Int32)))] [])) (fun t_ k_ => XS.icmpYes X101.here hx rfl (pc0 := 8) (pc' := 34) rfl (hb hby d10_8) rfl ((flt (by decide : ¬ (((0 : Int32) + (1 : Int32)) + (1 : Int32)) < (2 : Int32))).2.1) (by decide) (by decide) k_) ?_
      refine Go.via (B := T101.setTop (mkF m 38 #[.val (.ref a), .val (.int x), .val (.int y), .val (.int (0 : Int32))] [(.ref a), (.int (0 : Int32))])) (fun t_ k_ => ?_) ?_
      · show Steps p.tables e below (T101.setTop (mkF m 34 #[.val (.ref a), .val (.int x), .val (.int y), .val (.int (((0 : Int32) + (1 : Int32)) + (1 : Int32)))] [])) t_
        refine XS.iconst X101.here hx rfl (hb hby d10_34) ?_
        show Steps p.tables e below (T101.setTop (mkF m 35 #[.val (.ref a), .val (.int x), .val (.int y), .val (.int (((0 : Int32) + (1 : Int32)) + (1 : Int32)))] [(.int (0 : Int32))])) t_
        refine XS.istoreN X101.here hx rfl (hb hby d10_35) rfl (l' := #[.val (.ref a), .val (.int x), .val (.int y), .val (.int (0 : Int32))]) rfl ?_
        show Steps p.tables e below (T101.setTop (mkF m 36 #[.val (.ref a), .val (.int x), .val (.int y), .val (.int (0 : Int32))] [])) t_
        refine XS.iloadN X101.here hx rfl (hb hby d10_36) rfl ?_
        show Steps p.tables e below (T101.setTop (mkF m 37 #[.val (.ref a), .val (.int x), .val (.int y), .val (.int (0 : Int32))] [(.int (0 : Int32))])) t_
        refine XS.aloadN X101.here hx rfl (hb hby d10_37) rfl rfl ?_
        show Steps p.tables e below (T101.setTop (mkF m 38 #[.val (.ref a), .val (.int x), .val (.int y), .val (.int (0 : Int32))] [(.ref a), (.int (0 : Int32))])) t_
        exact k_
      obtain ⟨T102, X102, e102, st102⟩ := getF X101 hx hZ hown (host := "") (Or.inl (hw _ (List.mem_of_getElem? (i := 34) rfl))) Via.refl e101 H.2.1.2.2.1 (g := (mkF m 38 #[.val (.ref a), .val (.int x), .val (.int y), .val (.int (0 : Int32))] [(.ref a), (.int (0 : Int32))])) rfl rfl (hb hby d10_38)
      refine Go.via st102 ?_
      show Go p.tables e below _ (T102.setTop (mkF m 41 #[.val (.ref a), .val (.int x), .val (.int y), .val (.int (0 : Int32))] [(.int (2 : Int32)), (.int (0 : Int32))]))
      refine Go.via (B := T102.setTop (mkF m 44 #[.val (.ref a), .val (.int x), .val (.int y), .val (.int (0 : Int32))] [])) (fun t_ k_ => XS.icmpNo X102.here hx rfl (hb hby d10_41) rfl ((tlt (by decide : (0 : Int32) < (2 : Int32))).2.1) k_) ?_
      refine Go.via (B := T102.setTop (mkF m 45 #[.val (.ref a), .val (.int x), .val (.int y), .val (.int (0 : Int32))] [(.ref a)])) (fun t_ k_ => ?_) ?_
      · show Steps p.tables e below (T102.setTop (mkF m 44 #[.val (.ref a), .val (.int x), .val (.int y), .val (.int (0 : Int32))] [])) t_
        refine XS.aloadN X102.here hx rfl (hb hby d10_44) rfl rfl ?_
        show Steps p.tables e below (T102.setTop (mkF m 45 #[.val (.ref a), .val (.int x), .val (.int y), .val (.int (0 : Int32))] [(.ref a)])) t_
        exact k_
      obtain ⟨T103, X103, e103, st103⟩ := getF X102 hx hZ hown (host := "") (Or.inl (hw _ (List.mem_of_getElem? (i := 18) rfl))) Via.refl e102 H.2.1.2.1 (g := (mkF m 45 #[.val (.ref a), .val (.int x), .val (.int y), .val (.int (0 : Int32))] [(.ref a)])) rfl rfl (hb hby d10_45)
      refine Go.via st103 ?_
      show Go p.tables e below _ (T103.setTop (mkF m 48 #[.val (.ref a), .val (.int x), .val (.int y), .val (.int (0 : Int32))] [(.ref sa)]))
      refine Go.via (B := T103.setTop (mkF m 49 #[.val (.ref a), .val (.int x), .val (.int y), .val (.int (0 : Int32))] [(.int (0 : Int32)), (.ref sa)])) (fun t_ k_ => ?_) ?_
      · show Steps p.tables e below (T103.setTop (mkF m 48 #[.val (.ref a), .val (.int x), .val (.int y), .val (.int (0 : Int32))] [(.ref sa)])) t_
        refine XS.iloadN X103.here hx rfl (hb hby d10_48) rfl ?_
        show Steps p.tables e below (T103.setTop (mkF m 49 #[.val (.ref a), .val (.int x), .val (.int y), .val (.int (0 : Int32))] [(.int (0 : Int32)), (.ref sa)])) t_
        exact k_
      refine Go.via (B := T103.setTop (mkF m 50 #[.val (.ref a), .val (.int x), .val (.int y), .val (.int (0 : Int32))] [(.int (sf 0))])) (fun t_ k_ => agetI X103 hx hZ e103 H.2.2.2.1 (by decide) (by decide) (g := (mkF m 49 #[.val (.ref a), .val (.int x), .val (.int y), .val (.int (0 : Int32))] [(.int (0 : Int32)), (.ref sa)])) rfl rfl (hb hby d10_49) t_ k_) ?_
      refine Go.via (B := T103.setTop (mkF m 51 #[.val (.ref a), .val (.int x), .val (.int y), .val (.int (0 : Int32))] [(.int x), (.int (sf 0))])) (fun t_ k_ => ?_) ?_
      · show Steps p.tables e below (T103.setTop (mkF m 50 #[.val (.ref a), .val (.int x), .val (.int y), .val (.int (0 : Int32))] [(.int (sf 0))])) t_
        refine XS.iloadN X103.here hx rfl (hb hby d10_50) rfl ?_
        show Steps p.tables e below (T103.setTop (mkF m 51 #[.val (.ref a), .val (.int x), .val (.int y), .val (.int (0 : Int32))] [(.int x), (.int (sf 0))])) t_
        exact k_
      by_cases hr10 : (sf 0) = x
      · refine Go.via (B := T103.setTop (mkF m 54 #[.val (.ref a), .val (.int x), .val (.int y), .val (.int (0 : Int32))] [])) (fun t_ k_ => XS.icmpNo X103.here hx rfl (hb hby d10_51) rfl ((teq hr10).2) k_) ?_
        refine Go.via (B := T103.setTop (mkF m 55 #[.val (.ref a), .val (.int x), .val (.int y), .val (.int (0 : Int32))] [(.ref a)])) (fun t_ k_ => ?_) ?_
        · show Steps p.tables e below (T103.setTop (mkF m 54 #[.val (.ref a), .val (.int x), .val (.int y), .val (.int (0 : Int32))] [])) t_
          refine XS.aloadN X103.here hx rfl (hb hby d10_54) rfl rfl ?_
          show Steps p.tables e below (T103.setTop (mkF m 55 #[.val (.ref a), .val (.int x), .val (.int y), .val (.int (0 : Int32))] [(.ref a)])) t_
          exact k_
        obtain ⟨T104, X104, e104, st104⟩ := getF X103 hx hZ hown (host := "") (Or.inl (hw _ (List.mem_of_getElem? (i := 18) rfl))) Via.refl e103 H.2.1.2.1 (g := (mkF m 55 #[.val (.ref a), .val (.int x), .val (.int y), .val (.int (0 : Int32))] [(.ref a)])) rfl rfl (hb hby d10_55)
        refine Go.via st104 ?_
        show Go p.tables e below _ (T104.setTop (mkF m 58 #[.val (.ref a), .val (.int x), .val (.int y), .val (.int (0 : Int32))] [(.ref sa)]))
        refine Go.via (B := T104.setTop (mkF m 60 #[.val (.ref a), .val (.int x), .val (.int y), .val (.int (0 : Int32))] [(.int y), (.int (0 : Int32)), (.ref sa)])) (fun t_ k_ => ?_) ?_
        · show Steps p.tables e below (T104.setTop (mkF m 58 #[.val (.ref a), .val (.int x), .val (.int y), .val (.int (0 : Int32))] [(.ref sa)])) t_
          refine XS.iloadN X104.here hx rfl (hb hby d10_58) rfl ?_
          show Steps p.tables e below (T104.setTop (mkF m 59 #[.val (.ref a), .val (.int x), .val (.int y), .val (.int (0 : Int32))] [(.int (0 : Int32)), (.ref sa)])) t_
          refine XS.iloadN X104.here hx rfl (hb hby d10_59) rfl ?_
          show Steps p.tables e below (T104.setTop (mkF m 60 #[.val (.ref a), .val (.int x), .val (.int y), .val (.int (0 : Int32))] [(.int y), (.int (0 : Int32)), (.ref sa)])) t_
          exact k_
        obtain ⟨T105, h105, L105, X105, e105, N105, W105, V105, st105⟩ := aputI X104 hx hZ e104 H.2.2.2.1 N0 gs (by decide) (by decide) (g := (mkF m 60 #[.val (.ref a), .val (.int x), .val (.int y), .val (.int (0 : Int32))] [(.int y), (.int (0 : Int32)), (.ref sa)])) rfl rfl (hb hby d10_60)
        have H105 := H.storeS W105 V105
        have Z105 := H105.ge ga
        clear W105 V105
        refine Go.via st105 ?_
        show Go p.tables e below _ (T105.setTop (mkF m 61 #[.val (.ref a), .val (.int x), .val (.int y), .val (.int (0 : Int32))] []))
        refine Go.via (B := T105.setTop (mkF m 38 #[.val (.ref a), .val (.int x), .val (.int y), .val (.int ((0 : Int32) + (1 : Int32)))] [(.ref a), (.int ((0 : Int32) + (1 : Int32)))])) (fun t_ k_ => ?_) ?_
        · show Steps p.tables e below (T105.setTop (mkF m 61 #[.val (.ref a), .val (.int x), .val (.int y), .val (.int (0 : Int32))] [])) t_
          refine XS.iinc X105.here hx rfl (hb hby d10_61) rfl (l' := #[.val (.ref a), .val (.int x), .val (.int y), .val (.int ((0 : Int32) + (1 : Int32)))]) rfl ?_
          show Steps p.tables e below (T105.setTop (mkF m 64 #[.val (.ref a), .val (.int x), .val (.int y), .val (.int ((0 : Int32) + (1 : Int32)))] [])) t_
          refine XS.goto X105.here hx rfl (pc0 := 64) (pc' := 36) rfl (hb hby d10_64) (by decide) (by decide) ?_
          show Steps p.tables e below (T105.setTop (mkF m 36 #[.val (.ref a), .val (.int x), .val (.int y), .val (.int ((0 : Int32) + (1 : Int32)))] [])) t_
          refine XS.iloadN X105.here hx rfl (hb hby d10_36) rfl ?_
          show Steps p.tables e below (T105.setTop (mkF m 37 #[.val (.ref a), .val (.int x), .val (.int y), .val (.int ((0 : Int32) + (1 : Int32)))] [(.int ((0 : Int32) + (1 : Int32)))])) t_
          refine XS.aloadN X105.here hx rfl (hb hby d10_37) rfl rfl ?_
          show Steps p.tables e below (T105.setTop (mkF m 38 #[.val (.ref a), .val (.int x), .val (.int y), .val (.int ((0 : Int32) + (1 : Int32)))] [(.ref a), (.int ((0 : Int32) + (1 : Int32)))])) t_
          exact k_
        obtain ⟨T106, X106, e106, st106⟩ := getF X105 hx hZ hown (host := "") (Or.inl (hw _ (List.mem_of_getElem? (i := 34) rfl))) Via.refl e105 H105.2.1.2.2.1 (g := (mkF m 38 #[.val (.ref a), .val (.int x), .val (.int y), .val (.int ((0 : Int32) + (1 : Int32)))] [(.ref a), (.int ((0 : Int32) + (1 : Int32)))])) rfl rfl (hb hby d10_38)
        refine Go.via st106 ?_
        show Go p.tables e below _ (T106.setTop (mkF m 41 #[.val (.ref a), .val (.int x), .val (.int y), .val (.int ((0 : Int32) + (1 : Int32)))] [(.int (2 : Int32)), (.int ((0 : Int32) + (1 : Int32)))]))
        refine Go.via (B := T106.setTop (mkF m 44 #[.val (.ref a), .val (.int x), .val (.int y), .val (.int ((0 : Int32) + (1 : Int32)))] [])) (fun t_ k_ => XS.icmpNo X106.here hx rfl (hb hby d10_41) rfl ((tlt (by decide : ((0 : Int32) + (1 : Int32)) < (2 : Int32))).2.1) k_) ?_
        refine Go.via (B := T106.setTop (mkF m 45 #[.val (.ref a), .val (.int x), .val (.int y), .val (.int ((0 : Int32) + (1 : Int32)))] [(.ref a)])) (fun t_ k_ => ?_) ?_
        · show Steps p.tables e below (T106.setTop (mkF m 44 #[.val (.ref a), .val (.int x), .val (.int y), .val (.int ((0 : Int32) + (1 : Int32)))] [])) t_
          refine XS.aloadN X106.here hx rfl (hb hby d10_44) rfl rfl ?_
          show Steps p.tables e below (T106.setTop (mkF m 45 #[.val (.ref a), .val (.int x), .val (.int y), .val (.int ((0 : Int32) + (1 : Int32)))] [(.ref a)])) t_
          exact k_
        obtain ⟨T107, X107, e107, st107⟩ := getF X106 hx hZ hown (host := "") (Or.inl (hw _ (List.mem_of_getElem? (i := 18) rfl))) Via.refl e106 H105.2.1.2.1 (g := (mkF m 45 #[.val (.ref a), .val (.int x), .val (.int y), .val (.int ((0 : Int32) + (1 : Int32)))] [(.ref a)])) rfl rfl (hb hby d10_45)
        refine Go.via st107 ?_
        show Go p.tables e below _ (T107.setTop (mkF m 48 #[.val (.ref a), .val (.int x), .val (.int y), .val (.int ((0 : Int32) + (1 : Int32)))] [(.ref sa)]))
        refine Go.via (B := T107.setTop (mkF m 49 #[.val (.ref a), .val (.int x), .val (.int y), .val (.int ((0 : Int32) + (1 : Int32)))] [(.int ((0 : Int32) + (1 : Int32))), (.ref sa)])) (fun t_ k_ => ?_) ?_
        · show Steps p.tables e below (T107.setTop (mkF m 48 #[.val (.ref a), .val (.int x), .val (.int y), .val (.int ((0 : Int32) + (1 : Int32)))] [(.ref sa)])) t_
          refine XS.iloadN X107.here hx rfl (hb hby d10_48) rfl ?_
          show Steps p.tables e below (T107.setTop (mkF m 49 #[.val (.ref a), .val (.int x), .val (.int y), .val (.int ((0 : Int32) + (1 : Int32)))] [(.int ((0 : Int32) + (1 : Int32))), (.ref sa)])) t_
          exact k_
        refine Go.via (B := T107.setTop (mkF m 50 #[.val (.ref a), .val (.int x), .val (.int y), .val (.int ((0 : Int32) + (1 : Int32)))] [(.int (sf 1))])) (fun t_ k_ => agetI X107 hx hZ e107 H105.2.2.2.1 (by decide) (by decide) (g := (mkF m 49 #[.val (.ref a), .val (.int x), .val (.int y), .val (.int ((0 : Int32) + (1 : Int32)))] [(.int ((0 : Int32) + (1 : Int32))), (.ref sa)])) rfl rfl (hb hby d10_49) t_ k_) ?_
        refine Go.via (B := T107.setTop (mkF m 51 #[.val (.ref a), .val (.int x), .val (.int y), .val (.int ((0 : Int32) + (1 : Int32)))] [(.int x), (.int (sf 1))])) (fun t_ k_ => ?_) ?_
        · show Steps p.tables e below (T107.setTop (mkF m 50 #[.val (.ref a), .val (.int x), .val (.int y), .val (.int ((0 : Int32) + (1 : Int32)))] [(.int (sf 1))])) t_
          refine XS.iloadN X107.here hx rfl (hb hby d10_50) rfl ?_
          show Steps p.tables e below (T107.setTop (mkF m 51 #[.val (.ref a), .val (.int x), .val (.int y), .val (.int ((0 : Int32) + (1 : Int32)))] [(.int x), (.int (sf 1))])) t_
          exact k_
        by_cases hr11 : (sf 1) = x
        · refine Go.via (B := T107.setTop (mkF m 54 #[.val (.ref a), .val (.int x), .val (.int y), .val (.int ((0 : Int32) + (1 : Int32)))] [])) (fun t_ k_ => XS.icmpNo X107.here hx rfl (hb hby d10_51) rfl ((teq hr11).2) k_) ?_
          refine Go.via (B := T107.setTop (mkF m 55 #[.val (.ref a), .val (.int x), .val (.int y), .val (.int ((0 : Int32) + (1 : Int32)))] [(.ref a)])) (fun t_ k_ => ?_) ?_
          · show Steps p.tables e below (T107.setTop (mkF m 54 #[.val (.ref a), .val (.int x), .val (.int y), .val (.int ((0 : Int32) + (1 : Int32)))] [])) t_
            refine XS.aloadN X107.here hx rfl (hb hby d10_54) rfl rfl ?_
            show Steps p.tables e below (T107.setTop (mkF m 55 #[.val (.ref a), .val (.int x), .val (.int y), .val (.int ((0 : Int32) + (1 : Int32)))] [(.ref a)])) t_
            exact k_
          obtain ⟨T108, X108, e108, st108⟩ := getF X107 hx hZ hown (host := "") (Or.inl (hw _ (List.mem_of_getElem? (i := 18) rfl))) Via.refl e107 H105.2.1.2.1 (g := (mkF m 55 #[.val (.ref a), .val (.int x), .val (.int y), .val (.int ((0 : Int32) + (1 : Int32)))] [(.ref a)])) rfl rfl (hb hby d10_55)
          refine Go.via st108 ?_
          show Go p.tables e below _ (T108.setTop (mkF m 58 #[.val (.ref a), .val (.int x), .val (.int y), .val (.int ((0 : Int32) + (1 : Int32)))] [(.ref sa)]))
          refine Go.via (B := T108.setTop (mkF m 60 #[.val (.ref a), .val (.int x), .val (.int y), .val (.int ((0 : Int32) + (1 : Int32)))] [(.int y), (.int ((0 : Int32) + (1 : Int32))), (.ref sa)])) (fun t_ k_ => ?_) ?_
          · show Steps p.tables e below (T108.setTop (mkF m 58 #[.val (.ref a), .val (.int x), .val (.int y), .val (.int ((0 : Int32) + (1 : Int32)))] [(.ref sa)])) t_
            refine XS.iloadN X108.here hx rfl (hb hby d10_58) rfl ?_
            show Steps p.tables e below (T108.setTop (mkF m 59 #[.val (.ref a), .val (.int x), .val (.int y), .val (.int ((0 : Int32) + (1 : Int32)))] [(.int ((0 : Int32) + (1 : Int32))), (.ref sa)])) t_
            refine XS.iloadN X108.here hx rfl (hb hby d10_59) rfl ?_
            show Steps p.tables e below (T108.setTop (mkF m 60 #[.val (.ref a), .val (.int x), .val (.int y), .val (.int ((0 : Int32) + (1 : Int32)))] [(.int y), (.int ((0 : Int32) + (1 : Int32))), (.ref sa)])) t_
            exact k_
          obtain ⟨T109, h109, L109, X109, e109, N109, W109, V109, st109⟩ := aputI X108 hx hZ e108 H105.2.2.2.1 N105 gs (by decide) (by decide) (g := (mkF m 60 #[.val (.ref a), .val (.int x), .val (.int y), .val (.int ((0 : Int32) + (1 : Int32)))] [(.int y), (.int ((0 : Int32) + (1 : Int32))), (.ref sa)])) rfl rfl (hb hby d10_60)
          have H109 := H105.storeS W109 V109
          have Z109 := H109.ge ga
          clear W109 V109
          refine Go.via st109 ?_
          show Go p.tables e below _ (T109.setTop (mkF m 61 #[.val (.ref a), .val (.int x), .val (.int y), .val (.int ((0 : Int32) + (1 : Int32)))] []))
          refine Go.via (B := T109.setTop (mkF m 38 #[.val (.ref a), .val (.int x), .val (.int y), .val (.int (((0 : Int32) + (1 : Int32)) + (1 : Int32)))] [(.ref a), (.int (((0 : Int32) + (1 : Int32)) + (1 : Int32)))])) (fun t_ k_ => ?_) ?_
          · show Steps p.tables e below (T109.setTop (mkF m 61 #[.val (.ref a), .val (.int x), .val (.int y), .val (.int ((0 : Int32) + (1 : Int32)))] [])) t_
            refine XS.iinc X109.here hx rfl (hb hby d10_61) rfl (l' := #[.val (.ref a), .val (.int x), .val (.int y), .val (.int (((0 : Int32) + (1 : Int32)) + (1 : Int32)))]) rfl ?_
            show Steps p.tables e below (T109.setTop (mkF m 64 #[.val (.ref a), .val (.int x), .val (.int y), .val (.int (((0 : Int32) + (1 : Int32)) + (1 : Int32)))] [])) t_
            refine XS.goto X109.here hx rfl (pc0 := 64) (pc' := 36) rfl (hb hby d10_64) (by decide) (by decide) ?_
            show Steps p.tables e below (T109.setTop (mkF m 36 #[.val (.ref a), .val (.int x), .val (.int y), .val (.int (((0 : Int32) + (1 : Int32)) + (1 : Int32)))] [])) t_
            refine XS.iloadN X109.here hx rfl (hb hby d10_36) rfl ?_
            show Steps p.tables e below (T109.setTop (mkF m 37 #[.val (.ref a), .val (.int x), .val (.int y), .val (.int (((0 : Int32) + (1 : Int32)) + (1 : Int32)))] [(.int (((0 : Int32) + (1 : Int32)) + (1 : Int32)))])) t_
            refine XS.aloadN X109.here hx rfl (hb hby d10_37) rfl rfl ?_
            show Steps p.tables e below (T109.setTop (mkF m 38 #[.val (.ref a), .val (.int x), .val (.int y), .val (.int (((0 : Int32) + (1 : Int32)) + (1 : Int32)))] [(.ref a), (.int (((0 : Int32) + (1 : Int32)) + (1 : Int32)))])) t_
            exact k_
          obtain ⟨T110, X110, e110, st110⟩ := getF X109 hx hZ hown (host := "") (Or.inl (hw _ (List.mem_of_getElem? (i := 34) rfl))) Via.refl e109 H109.2.1.2.2.1 (g := (mkF m 38 #[.val (.ref a), .val (.int x), .val (.int y), .val (.int (((0 : Int32) + (1 : Int32)) + (1 : Int32)))] [(.ref a), (.int (((0 : Int32) + (1 : Int32)) + (1 : Int32)))])) rfl rfl (hb hby d10_38)
          refine Go.via st110 ?_
          show Go p.tables e below _ (T110.setTop (mkF m 41 #[.val (.ref a), .val (.int x), .val (.int y), .val (.int (((0 : Int32) + (1 : Int32)) + (1 : Int32)))] [(.int (2 : Int32)), (.int (((0 : Int32) + (1 : Int32)) + (1 : Int32)))]))
          refine Go.via (B := T110.setTop (mkF m 67 #[.val (.ref a), .val (.int x), .val (.int y), .val (.int (((0 : Int32) + (1 : Int32)) + (1 : Int32)))] [])) (fun t_ k_ => XS.icmpYes X110.here hx rfl (pc0 := 41) (pc' := 67) rfl (hb hby d10_41) rfl ((flt (by decide : ¬ (((0 : Int32) + (1 : Int32)) + (1 : Int32)) < (2 : Int32))).2.1) (by decide) (by decide) k_) ?_
          exact Go.leave X110 hlk (v := none) (fun _ => rfl) (fun fs hr => X110.returnOut hx hrt (hb hby d10_67) hr) (by decide) (by decide) (⟨rfl, N109, _, _, FP.at e110 H109, (if_neg hr00).symm, (if_neg hr01).symm, (if_pos hr10).symm, (if_pos hr11).symm⟩)
        · refine Go.via (B := T107.setTop (mkF m 61 #[.val (.ref a), .val (.int x), .val (.int y), .val (.int ((0 : Int32) + (1 : Int32)))] [])) (fun t_ k_ => XS.icmpYes X107.here hx rfl (pc0 := 51) (pc' := 61) rfl (hb hby d10_51) rfl ((feq hr11).2) (by decide) (by decide) k_) ?_
          refine Go.via (B := T107.setTop (mkF m 38 #[.val (.ref a), .val (.int x), .val (.int y), .val (.int (((0 : Int32) + (1 : Int32)) + (1 : Int32)))] [(.ref a), (.int (((0 : Int32) + (1 : Int32)) + (1 : Int32)))])) (fun t_ k_ => ?_) ?_
          · show Steps p.tables e below (T107.setTop (mkF m 61 #[.val (.ref a), .val (.int x), .val (.int y), .val (.int ((0 : Int32) + (1 : Int32)))] [])) t_
            refine XS.iinc X107.here hx rfl (hb hby d10_61) rfl (l' := #[.val (.ref a), .val (.int x), .val (.int y), .val (.int (((0 : Int32) + (1 : Int32)) + (1 : Int32)))]) rfl ?_
            show Steps p.tables e below (T107.setTop (mkF m 64 #[.val (.ref a), .val (.int x), .val (.int y), .val (.int (((0 : Int32) + (1 : Int32)) + (1 : Int32)))] [])) t_
            refine XS.goto X107.here hx rfl (pc0 := 64) (pc' := 36) rfl (hb hby d10_64) (by decide) (by decide) ?_
            show Steps p.tables e below (T107.setTop (mkF m 36 #[.val (.ref a), .val (.int x), .val (.int y), .val (.int (((0 : Int32) + (1 : Int32)) + (1 : Int32)))] [])) t_
            refine XS.iloadN X107.here hx rfl (hb hby d10_36) rfl ?_
            show Steps p.tables e below (T107.setTop (mkF m 37 #[.val (.ref a), .val (.int x), .val (.int y), .val (.int (((0 : Int32) + (1 : Int32)) + (1 : Int32)))] [(.int (((0 : Int32) + (1 : Int32)) + (1 : Int32)))])) t_
            refine XS.aloadN X107.here hx rfl (hb hby d10_37) rfl rfl ?_
            show Steps p.tables e below (T107.setTop (mkF m 38 #[.val (.ref a), .val (.int x), .val (.int y), .val (.int (((0 : Int32) + (1 : Int32)) + (1 : Int32)))] [(.ref a), (.int (((0 : Int32) + (1 : Int32)) + (1 : Int32)))])) t_
            exact k_
          obtain ⟨T111, X111, e111, st111⟩ := getF X107 hx hZ hown (host := "") (Or.inl (hw _ (List.mem_of_getElem? (i := 34) rfl))) Via.refl e107 H105.2.1.2.2.1 (g := (mkF m 38 #[.val (.ref a), .val (.int x), .val (.int y), .val (.int (((0 : Int32) + (1 : Int32)) + (1 : Int32)))] [(.ref a), (.int (((0 : Int32) + (1 : Int32)) + (1 : Int32)))])) rfl rfl (hb hby d10_38)
          refine Go.via st111 ?_
          show Go p.tables e below _ (T111.setTop (mkF m 41 #[.val (.ref a), .val (.int x), .val (.int y), .val (.int (((0 : Int32) + (1 : Int32)) + (1 : Int32)))] [(.int (2 : Int32)), (.int (((0 : Int32) + (1 : Int32)) + (1 : Int32)))]))
          refine Go.via (B := T111.setTop (mkF m 67 #[.val (.ref a), .val (.int x), .val (.int y), .val (.int (((0 : Int32) + (1 : Int32)) + (1 : Int32)))] [])) (fun t_ k_ => XS.icmpYes X111.here hx rfl (pc0 := 41) (pc' := 67) rfl (hb hby d10_41) rfl ((flt (by decide : ¬ (((0 : Int32) + (1 : Int32)) + (1 : Int32)) < (2 : Int32))).2.1) (by decide) (by decide) k_) ?_
          exact Go.leave X111 hlk (v := none) (fun _ => rfl) (fun fs hr => X111.returnOut hx hrt (hb hby d10_67) hr) (by decide) (by decide) (⟨rfl, N105, _, _, FP.at e111 H105, (if_neg hr00).symm, (if_neg hr01).symm, (if_pos hr10).symm, (if_neg hr11).symm⟩)
      · refine Go.via (B := T103.setTop (mkF m 61 #[.val (.ref a), .val (.int x), .val (.int y), .val (.int (0 : Int32))] [])) (fun t_ k_ => XS.icmpYes X103.here hx rfl (pc0 := 51) (pc' := 61) rfl (hb hby d10_51) rfl ((feq hr10).2) (by decide) (by decide) k_) ?_
        refine Go.via (B := T103.setTop (mkF m 38 #[.val (.ref a), .val (.int x), .val (.int y), .val (.int ((0 : Int32) + (1 : Int32)))] [(.ref a), (.int ((0 : Int32) + (1 : Int32)))])) (fun t_ k_ => ?_) ?_
        · show Steps p.tables e below (T103.setTop (mkF m 61 #[.val (.ref a), .val (.int x), .val (.int y), .val (.int (0 : Int32))] [])) t_
          refine XS.iinc X103.here hx rfl (hb hby d10_61) rfl (l' := #[.val (.ref a), .val (.int x), .val (.int y), .val (.int ((0 : Int32) + (1 : Int32)))]) rfl ?_
          show Steps p.tables e below (T103.setTop (mkF m 64 #[.val (.ref a), .val (.int x), .val (.int y), .val (.int ((0 : Int32) + (1 : Int32)))] [])) t_
          refine XS.goto X103.here hx rfl (pc0 := 64) (pc' := 36) rfl (hb hby d10_64) (by decide) (by decide) ?_
          show Steps p.tables e below (T103.setTop (mkF m 36 #[.val (.ref a), .val (.int x), .val (.int y), .val (.int ((0 : Int32) + (1 : Int32)))] [])) t_
          refine XS.iloadN X103.here hx rfl (hb hby d10_36) rfl ?_
          show Steps p.tables e below (T103.setTop (mkF m 37 #[.val (.ref a), .val (.int x), .val (.int y), .val (.int ((0 : Int32) + (1 : Int32)))] [(.int ((0 : Int32) + (1 : Int32)))])) t_
          refine XS.aloadN X103.here hx rfl (hb hby d10_37) rfl rfl ?_
          show Steps p.tables e below (T103.setTop (mkF m 38 #[.val (.ref a), .val (.int x), .val (.int y), .val (.int ((0 : Int32) + (1 : Int32)))] [(.ref a), (.int ((0 : Int32) + (1 : Int32)))])) t_
          exact k_
        obtain ⟨T112, X112, e112, st112⟩ := getF X103 hx hZ hown (host := "") (Or.inl (hw _ (List.mem_of_getElem? (i := 34) rfl))) Via.refl e103 H.2.1.2.2.1 (g := (mkF m 38 #[.val (.ref a), .val (.int x), .val (.int y), .val (.int ((0 : Int32) + (1 : Int32)))] [(.ref a), (.int ((0 : Int32) + (1 : Int32)))])) rfl rfl (hb hby d10_38)
        refine Go.via st112 ?_
        show Go p.tables e below _ (T112.setTop (mkF m 41 #[.val (.ref a), .val (.int x), .val (.int y), .val (.int ((0 : Int32) + (1 : Int32)))] [(.int (2 : Int32)), (.int ((0 : Int32) + (1 : Int32)))]))
        refine Go.via (B := T112.setTop (mkF m 44 #[.val (.ref a), .val (.int x), .val (.int y), .val (.int ((0 : Int32) + (1 : Int32)))] [])) (fun t_ k_ => XS.icmpNo X112.here hx rfl (hb hby d10_41) rfl ((tlt (by decide : ((0 : Int32) + (1 : Int32)) < (2 : Int32))).2.1) k_) ?_
        refine Go.via (B := T112.setTop (mkF m 45 #[.val (.ref a), .val (.int x), .val (.int y), .val (.int ((0 : Int32) + (1 : Int32)))] [(.ref a)])) (fun t_ k_ => ?_) ?_
        · show Steps p.tables e below (T112.setTop (mkF m 44 #[.val (.ref a), .val (.int x), .val (.int y), .val (.int ((0 : Int32) + (1 : Int32)))] [])) t_
          refine XS.aloadN X112.here hx rfl (hb hby d10_44) rfl rfl ?_
          show Steps p.tables e below (T112.setTop (mkF m 45 #[.val (.ref a), .val (.int x), .val (.int y), .val (.int ((0 : Int32) + (1 : Int32)))] [(.ref a)])) t_
          exact k_
        obtain ⟨T113, X113, e113, st113⟩ := getF X112 hx hZ hown (host := "") (Or.inl (hw _ (List.mem_of_getElem? (i := 18) rfl))) Via.refl e112 H.2.1.2.1 (g := (mkF m 45 #[.val (.ref a), .val (.int x), .val (.int y), .val (.int ((0 : Int32) + (1 : Int32)))] [(.ref a)])) rfl rfl (hb hby d10_45)
        refine Go.via st113 ?_
        show Go p.tables e below _ (T113.setTop (mkF m 48 #[.val (.ref a), .val (.int x), .val (.int y), .val (.int ((0 : Int32) + (1 : Int32)))] [(.ref sa)]))
        refine Go.via (B := T113.setTop (mkF m 49 #[.val (.ref a), .val (.int x), .val (.int y), .val (.int ((0 : Int32) + (1 : Int32)))] [(.int ((0 : Int32) + (1 : Int32))), (.ref sa)])) (fun t_ k_ => ?_) ?_
        · show Steps p.tables e below (T113.setTop (mkF m 48 #[.val (.ref a), .val (.int x), .val (.int y), .val (.int ((0 : Int32) + (1 : Int32)))] [(.ref sa)])) t_
          refine XS.iloadN X113.here hx rfl (hb hby d10_48) rfl ?_
          show Steps p.tables e below (T113.setTop (mkF m 49 #[.val (.ref a), .val (.int x), .val (.int y), .val (.int ((0 : Int32) + (1 : Int32)))] [(.int ((0 : Int32) + (1 : Int32))), (.ref sa)])) t_
          exact k_
        refine Go.via (B := T113.setTop (mkF m 50 #[.val (.ref a), .val (.int x), .val (.int y), .val (.int ((0 : Int32) + (1 : Int32)))] [(.int (sf 1))])) (fun t_ k_ => agetI X113 hx hZ e113 H.2.2.2.1 (by decide) (by decide) (g := (mkF m 49 #[.val (.ref a), .val (.int x), .val (.int y), .val (.int ((0 : Int32) + (1 : Int32)))] [(.int ((0 : Int32) + (1 : Int32))), (.ref sa)])) rfl rfl (hb hby d10_49) t_ k_) ?_
        refine Go.via (B := T113.setTop (mkF m 51 #[.val (.ref a), .val (.int x), .val (.int y), .val (.int ((0 : Int32) + (1 : Int32)))] [(.int x), (.int (sf 1))])) (fun t_ k_ => ?_) ?_
        · show Steps p.tables e below (T113.setTop (mkF m 50 #[.val (.ref a), .val (.int x), .val (.int y), .val (.int ((0 : Int32) + (1 : Int32)))] [(.int (sf 1))])) t_
          refine XS.iloadN X113.here hx rfl (hb hby d10_50) rfl ?_
          show Steps p.tables e below (T113.setTop (mkF m 51 #[.val (.ref a), .val (.int x), .val (.int y), .val (.int ((0 : Int32) + (1 : Int32)))] [(.int x), (.int (sf 1))])) t_
          exact k_
        by_cases hr11 : (sf 1) = x
        · refine Go.via (B := T113.setTop (mkF m 54 #[.val (.ref a), .val (.int x), .val (.int y), .val (.int ((0 : Int32) + (1 : Int32)))] [])) (fun t_ k_ => XS.icmpNo X113.here hx rfl (hb hby d10_51) rfl ((teq hr11).2) k_) ?_
          refine Go.via (B := T113.setTop (mkF m 55 #[.val (.ref a), .val (.int x), .val (.int y), .val (.int ((0 : Int32) + (1 : Int32)))] [(.ref a)])) (fun t_ k_ => ?_) ?_
          · show Steps p.tables e below (T113.setTop (mkF m 54 #[.val (.ref a), .val (.int x), .val (.int y), .val (.int ((0 : Int32) + (1 : Int32)))] [])) t_
            refine XS.aloadN X113.here hx rfl (hb hby d10_54) rfl rfl ?_
            show Steps p.tables e below (T113.setTop (mkF m 55 #[.val (.ref a), .val (.int x), .val (.int y), .val (.int ((0 : Int32) + (1 : Int32)))] [(.ref a)])) t_
            exact k_
          obtain ⟨T114, X114, e114, st114⟩ := getF X113 hx hZ hown (host := "") (Or.inl (hw _ (List.mem_of_getElem? (i := 18) rfl))) Via.refl e113 H.2.1.2.1 (g := (mkF m 55 #[.val (.ref a), .val (.int x), .val (.int y), .val (.int ((0 : Int32) + (1 : Int32)))] [(.ref a)])) rfl rfl (hb hby d10_55)
          refine Go.via st114 ?_
          show Go p.tables e below _ (T114.setTop (mkF m 58 #[.val (.ref a), .val (.int x), .val (.int y), .val (.int ((0 : Int32) + (1 : Int32)))] [(.ref sa)]))
          refine Go.via (B := T114.setTop (mkF m 60 #[.val (.ref a), .val (.int x), .val (.int y), .val (.int ((0 : Int32) + (1 : Int32)))] [(.int y), (.int ((0 : Int32) + (1 : Int32))), (.ref sa)])) (fun t_ k_ => ?_) ?_
          · show Steps p.tables e below (T114.setTop (mkF m 58 #[.val (.ref a), .val (.int x), .val (.int y), .val (.int ((0 : Int32) + (1 : Int32)))] [(.ref sa)])) t_
            refine XS.iloadN X114.here hx rfl (hb hby d10_58) rfl ?_
            show Steps p.tables e below (T114.setTop (mkF m 59 #[.val (.ref a), .val (.int x), .val (.int y), .val (.int ((0 : Int32) + (1 : Int32)))] [(.int ((0 : Int32) + (1 : Int32))), (.ref sa)])) t_
            refine XS.iloadN X114.here hx rfl (hb hby d10_59) rfl ?_
            show Steps p.tables e below (T114.setTop (mkF m 60 #[.val (.ref a), .val (.int x), .val (.int y), .val (.int ((0 : Int32) + (1 : Int32)))] [(.int y), (.int ((0 : Int32) + (1 : Int32))), (.ref sa)])) t_
            exact k_
          obtain ⟨T115, h115, L115, X115, e115, N115, W115, V115, st115⟩ := aputI X114 hx hZ e114 H.2.2.2.1 N0 gs (by decide) (by decide) (g := (mkF m 60 #[.val (.ref a), .val (.int x), .val (.int y), .val (.int ((0 : Int32) + (1 : Int32)))] [(.int y), (.int ((0 : Int32) + (1 : Int32))), (.ref sa)])) rfl rfl (hb hby d10_60)
          have H115 := H.storeS W115 V115
          have Z115 := H115.ge ga
          clear W115 V115
          refine Go.via st115 ?_
          show Go p.tables e below _ (T115.setTop (mkF m 61 #[.val (.ref a), .val (.int x), .val (.int y), .val (.int ((0 : Int32) + (1 : Int32)))] []))
          refine Go.via (B := T115.setTop (mkF m 38 #[.val (.ref a), .val (.int x), .val (.int y), .val (.int (((0 : Int32) + (1 : Int32)) + (1 : Int32)))] [(.ref a), (.int (((0 : Int32) + (1 : Int32)) + (1 : Int32)))])) (fun t_ k_ => ?_) ?_
          · show Steps p.tables e below (T115.setTop (mkF m 61 #[.val (.ref a), .val (.int x), .val (.int y), .val (.int ((0 : Int32) + (1 : Int32)))] [])) t_
            refine XS.iinc X115.here hx rfl (hb hby d10_61) rfl (l' := #[.val (.ref a), .val (.int x), .val (.int y), .val (.int (((0 : Int32) + (1 : Int32)) + (1 : Int32)))]) rfl ?_
            show Steps p.tables e below (T115.setTop (mkF m 64 #[.val (.ref a), .val (.int x), .val (.int y), .val (.int (((0 : Int32) + (1 : Int32)) + (1 : Int32)))] [])) t_
            refine XS.goto X115.here hx rfl (pc0 := 64) (pc' := 36) rfl (hb hby d10_64) (by decide) (by decide) ?_
            show Steps p.tables e below (T115.setTop (mkF m 36 #[.val (.ref a), .val (.int x), .val (.int y), .val (.int (((0 : Int32) + (1 : Int32)) + (1 : Int32)))] [])) t_
            refine XS.iloadN X115.here hx rfl (hb hby d10_36) rfl ?_
            show Steps p.tables e below (T115.setTop (mkF m 37 #[.val (.ref a), .val (.int x), .val (.int y), .val (.int (((0 : Int32) + (1 : Int32)) + (1 : Int32)))] [(.int (((0 : Int32) + (1 : Int32)) + (1 : Int32)))])) t_
            refine XS.aloadN X115.here hx rfl (hb hby d10_37) rfl rfl ?_
            show Steps p.tables e below (T115.setTop (mkF m 38 #[.val (.ref a), .val (.int x), .val (.int y), .val (.int (((0 : Int32) + (1 : Int32)) + (1 : Int32)))] [(.ref a), (.int (((0 : Int32) + (1 : Int32)) + (1 : Int32)))])) t_
            exact k_
          obtain ⟨T116, X116, e116, st116⟩ := getF X115 hx hZ hown (host := "") (Or.inl (hw _ (List.mem_of_getElem? (i := 34) rfl))) Via.refl e115 H115.2.1.2.2.1 (g := (mkF m 38 #[.val (.ref a), .val (.int x), .val (.int y), .val (.int (((0 : Int32) + (1 : Int32)) + (1 : Int32)))] [(.ref a), (.int (((0 : Int32) + (1 : Int32)) + (1 : Int32)))])) rfl rfl (hb hby d10_38)
          refine Go.via st116 ?_
          show Go p.tables e below _ (T116.setTop (mkF m 41 #[.val (.ref a), .val (.int x), .val (.int y), .val (.int (((0 : Int32) + (1 : Int32)) + (1 : Int32)))] [(.int (2 : Int32)), (.int (((0 : Int32) + (1 : Int32)) + (1 : Int32)))]))
          refine Go.via (B := T116.setTop (mkF m 67 #[.val (.ref a), .val (.int x), .val (.int y), .val (.int (((0 : Int32) + (1 : Int32)) + (1 : Int32)))] [])) (fun t_ k_ => XS.icmpYes X116.here hx rfl (pc0 := 41) (pc' := 67) rfl (hb hby d10_41) rfl ((flt (by decide : ¬ (((0 : Int32) + (1 : Int32)) + (1 : Int32)) < (2 : Int32))).2.1) (by decide) (by decide) k_) ?_
          exact Go.leave X116 hlk (v := none) (fun _ => rfl) (fun fs hr => X116.returnOut hx hrt (hb hby d10_67) hr) (by decide) (by decide) (⟨rfl, N115, _, _, FP.at e116 H115, (if_neg hr00).symm, (if_neg hr01).symm, (if_neg hr10).symm, (if_pos hr11).symm⟩)
        · refine Go.via (B := T113.setTop (mkF m 61 #[.val (.ref a), .val (.int x), .val (.int y), .val (.int ((0 : Int32) + (1 : Int32)))] [])) (fun t_ k_ => XS.icmpYes X113.here hx rfl (pc0 := 51) (pc' := 61) rfl (hb hby d10_51) rfl ((feq hr11).2) (by decide) (by decide) k_) ?_
          refine Go.via (B := T113.setTop (mkF m 38 #[.val (.ref a), .val (.int x), .val (.int y), .val (.int (((0 : Int32) + (1 : Int32)) + (1 : Int32)))] [(.ref a), (.int (((0 : Int32) + (1 : Int32)) + (1 : Int32)))])) (fun t_ k_ => ?_) ?_
          · show Steps p.tables e below (T113.setTop (mkF m 61 #[.val (.ref a), .val (.int x), .val (.int y), .val (.int ((0 : Int32) + (1 : Int32)))] [])) t_
            refine XS.iinc X113.here hx rfl (hb hby d10_61) rfl (l' := #[.val (.ref a), .val (.int x), .val (.int y), .val (.int (((0 : Int32) + (1 : Int32)) + (1 : Int32)))]) rfl ?_
            show Steps p.tables e below (T113.setTop (mkF m 64 #[.val (.ref a), .val (.int x), .val (.int y), .val (.int (((0 : Int32) + (1 : Int32)) + (1 : Int32)))] [])) t_
            refine XS.goto X113.here hx rfl (pc0 := 64) (pc' := 36) rfl (hb hby d10_64) (by decide) (by decide) ?_
            show Steps p.tables e below (T113.setTop (mkF m 36 #[.val (.ref a), .val (.int x), .val (.int y), .val (.int (((0 : Int32) + (1 : Int32)) + (1 : Int32)))] [])) t_
            refine XS.iloadN X113.here hx rfl (hb hby d10_36) rfl ?_
            show Steps p.tables e below (T113.setTop (mkF m 37 #[.val (.ref a), .val (.int x), .val (.int y), .val (.int (((0 : Int32) + (1 : Int32)) + (1 : Int32)))] [(.int (((0 : Int32) + (1 : Int32)) + (1 : Int32)))])) t_
            refine XS.aloadN X113.here hx rfl (hb hby d10_37) rfl rfl ?_
            show Steps p.tables e below (T113.setTop (mkF m 38 #[.val (.ref a), .val (.int x), .val (.int y), .val (.int (((0 : Int32) + (1 : Int32)) + (1 : Int32)))] [(.ref a), (.int (((0 : Int32) + (1 : Int32)) + (1 : Int32)))])) t_
            exact k_
          obtain ⟨T117, X117, e117, st117⟩ := getF X113 hx hZ hown (host := "") (Or.inl (hw _ (List.mem_of_getElem? (i := 34) rfl))) Via.refl e113 H.2.1.2.2.1 (g := (mkF m 38 #[.val (.ref a), .val (.int x), .val (.int y), .val (.int (((0 : Int32) + (1 : Int32)) + (1 : Int32)))] [(.ref a), (.int (((0 : Int32) + (1 : Int32)) + (1 : Int32)))])) rfl rfl (hb hby d10_38)
          refine Go.via st117 ?_
          show Go p.tables e below _ (T117.setTop (mkF m 41 #[.val (.ref a), .val (.int x), .val (.int y), .val (.int (((0 : Int32) + (1 : Int32)) + (1 : Int32)))] [(.int (2 : Int32)), (.int (((0 : Int32) + (1 : Int32)) + (1 : Int32)))]))
          refine Go.via (B := T117.setTop (mkF m 67 #[.val (.ref a), .val (.int x), .val (.int y), .val (.int (((0 : Int32) + (1 : Int32)) + (1 : Int32)))] [])) (fun t_ k_ => XS.icmpYes X117.here hx rfl (pc0 := 41) (pc' := 67) rfl (hb hby d10_41) rfl ((flt (by decide : ¬ (((0 : Int32) + (1 : Int32)) + (1 : Int32)) < (2 : Int32))).2.1) (by decide) (by decide) k_) ?_
          exact Go.leave X117 hlk (v := none) (fun _ => rfl) (fun fs hr => X117.returnOut hx hrt (hb hby d10_67) hr) (by decide) (by decide) (⟨rfl, N0, _, _, FP.at e117 H, (if_neg hr00).symm, (if_neg hr01).symm, (if_neg hr10).symm, (if_neg hr11).symm⟩)
theorem d11_0 : decode prog_47_method_10_code 0 = .ok (.iload_n 1, 1) := by decide +kernel
theorem d11_1 : decode prog_47_method_10_code 1 = .ok (.aload_n 0, 1) := by decide +kernel
theorem d11_2 : decode prog_47_method_10_code 2 = .ok (.getfield 7, 3) := by decide +kernel
theorem d11_5 : decode prog_47_method_10_code 5 = .ok (.arraylength, 1) := by decide +kernel
theorem d11_6 : decode prog_47_method_10_code 6 = .ok (.if_icmp .ge 12, 3) := by decide +kernel
theorem d11_9 : decode prog_47_method_10_code 9 = .ok (.aload_n 0, 1) := by decide +kernel
theorem d11_10 : decode prog_47_method_10_code 10 = .ok (.getfield 7, 3) := by decide +kernel
theorem d11_13 : decode prog_47_method_10_code 13 = .ok (.iload_n 1, 1) := by decide +kernel
theorem d11_14 : decode prog_47_method_10_code 14 = .ok (.iaload, 1) := by decide +kernel
theorem d11_15 : decode prog_47_method_10_code 15 = .ok (.goto 4, 3) := by decide +kernel
theorem d11_18 : decode prog_47_method_10_code 18 = .ok (.iconst 0, 1) := by decide +kernel
theorem d11_19 : decode prog_47_method_10_code 19 = .ok (.ireturn, 1) := by decide +kernel
theorem pn_11 : plainName "com/example/bytewright/bytewright/classfile/Frame" = true := by first | (simp [plainName, overriddenIn]; done) | decide +kernel
theorem ef_11 (m : MethodId) (x0 : Addr) (x1 : Int32) : entryFrame m #[(.ref x0), (.int x1)] 2 = mkF m 0 #[.val (.ref x0), .val (.int x1)] [] := by first | (simp [entryFrame, mkF, argsToLocals, Value.category]; done) | rfl
def Q11 (Z : State) (a : Addr) (i : Int32) (la : Addr) (lf : Nat → Int32) (sa : Addr) (sn : Nat) (sf : Nat → Int32) (ss : Int32) (sw : Int32) (h0 : Heap) (n0 : Nat) (v : Option Value) (h : Heap) (L : List Loc) : Prop := v = some (.int (lf i.toNatClampNeg)) ∧ Fr n0 L ∧ h = h0
set_option maxRecDepth 65536 in
set_option maxHeartbeats 40000000 in
theorem rm11 (l : Launch) (Z : State) (a0 : Array Value) (hw : ∀ d ∈ tables_1, d.before a0 Z = true) (ws : List Jvm.Cond) (a : Addr) (i : Int32) (la : Addr) (lf : Nat → Int32) (sa : Addr) (sn : Nat) (sf : Nat → Int32) (ss : Int32) (sw : Int32) (h0 : Heap) (n0 : Nat) (Z0 : n0 ≤ h0.size) (H : FP Z h0 a la lf sa sn sf ss sw) (h0i : 0 ≤ i.toInt) (h1i : i.toInt < 2) :
    MetFree l (⟨"com/example/bytewright/bytewright/classfile/Frame", "local", "(I)I"⟩ : MethodName) (head1 (Jvm.Cond.code (⟨"com/example/bytewright/bytewright/classfile/Frame", "local", "(I)I"⟩ : MethodName) prog_47_method_10_code 2 (some .int) :: ws) ({ frames := 0, cells := 0, slots := 0, locals := 0 } : Room)) (fun a_ U_ => a_ = #[(.ref a), (.int i)] ∧ Z.Warmed39 U_.vm ∧ U_.heap = h0) (fun _ _ _ _ _ => True) (fun _ U_ o_ V_ => ∃ v_ L_, o_ = .returned v_ ∧ Q11 Z a i la lf sa sn sf ss sw h0 n0 v_ V_.heap L_ ∧ FrameEnd U_ o_ V_ L_ ({ frames := 0, cells := 0, slots := 0, locals := 0 } : Room).cells ({ frames := 0, cells := 0, slots := 0, locals := 0 } : Room).slots) := by
  refine MetFree.of_bodySF (plainFor_of_name pn_11) hisR ?_
  intro p e s m args below meth c s₁ Bd hml0 hP hK
  obtain ⟨rfl, hZ, hh⟩ := hP
  have hx := Bd.exec
  have hby := Bd.bytes
  have hml : c.maxLocals = 2 := hml0
  have hown : s.vm.findClass "com/example/bytewright/bytewright/classfile/Frame" = some m.cls := findClass_of_methodNamed Bd.named
  have hnm := (name_of_methodNamed Bd.named Bd.method).1
  have hlk : meth.locks = false := BodyLoose.notSynchronized Bd
  have hrt := Bd.returns
  have X0 : Stand p l e ({ frames := 0, cells := 0, slots := 0, locals := 0 } : Room) s m #[(.ref a), (.int i)] below meth c s₁ [] 0 0 := Stand.of_body Bd
  have e0 : s₁.heap = h0 := by rw [← hh, Bd.state]; rfl
  have N0 := Fr.nil n0
  show Go p.tables e below (PQ s below (Q11 Z a i la lf sa sn sf ss sw h0 n0) 0 0) _
  refine Go.via (B := s₁.setTop (mkF m 0 #[.val (.ref a), .val (.int i)] [])) (fun t_ k_ => castTop (ef_11 m a i) k_) ?_
  have hi := own_nat h0i
  have hi2 : i < (2 : Int32) := by rw [Int32.lt_iff_toInt_lt]; exact h1i
  refine Go.via (B := s₁.setTop (mkF m 2 #[.val (.ref a), .val (.int i)] [(.ref a), (.int i)])) (fun t_ k_ => ?_) ?_
  · show Steps p.tables e below (s₁.setTop (mkF m 0 #[.val (.ref a), .val (.int i)] [])) t_
    refine XS.iloadN X0.here hx rfl (hb hby d11_0) rfl ?_
    show Steps p.tables e below (s₁.setTop (mkF m 1 #[.val (.ref a), .val (.int i)] [(.int i)])) t_
    refine XS.aloadN X0.here hx rfl (hb hby d11_1) rfl rfl ?_
    show Steps p.tables e below (s₁.setTop (mkF m 2 #[.val (.ref a), .val (.int i)] [(.ref a), (.int i)])) t_
    exact k_
  obtain ⟨T118, X118, e118, st118⟩ := getF X0 hx hZ hown (host := "") (Or.inl (hw _ (List.mem_of_getElem? (i := 14) rfl))) Via.refl e0 H.2.1.1 (g := (mkF m 2 #[.val (.ref a), .val (.int i)] [(.ref a), (.int i)])) rfl rfl (hb hby d11_2)
  refine Go.via st118 ?_
  show Go p.tables e below _ (T118.setTop (mkF m 5 #[.val (.ref a), .val (.int i)] [(.ref la), (.int i)]))
  refine Go.via (B := T118.setTop (mkF m 6 #[.val (.ref a), .val (.int i)] [(.int (2 : Int32)), (.int i)])) (fun t_ k_ => alen X118 hx hZ e118 H.2.2.1 (g := (mkF m 5 #[.val (.ref a), .val (.int i)] [(.ref la), (.int i)])) rfl rfl (hb hby d11_5) t_ k_) ?_
  refine Go.via (B := T118.setTop (mkF m 9 #[.val (.ref a), .val (.int i)] [])) (fun t_ k_ => XS.icmpNo X118.here hx rfl (hb hby d11_6) rfl ((tlt hi2).2.1) k_) ?_
  refine Go.via (B := T118.setTop (mkF m 10 #[.val (.ref a), .val (.int i)] [(.ref a)])) (fun t_ k_ => ?_) ?_
  · show Steps p.tables e below (T118.setTop (mkF m 9 #[.val (.ref a), .val (.int i)] [])) t_
    refine XS.aloadN X118.here hx rfl (hb hby d11_9) rfl rfl ?_
    show Steps p.tables e below (T118.setTop (mkF m 10 #[.val (.ref a), .val (.int i)] [(.ref a)])) t_
    exact k_
  obtain ⟨T119, X119, e119, st119⟩ := getF X118 hx hZ hown (host := "") (Or.inl (hw _ (List.mem_of_getElem? (i := 14) rfl))) Via.refl e118 H.2.1.1 (g := (mkF m 10 #[.val (.ref a), .val (.int i)] [(.ref a)])) rfl rfl (hb hby d11_10)
  refine Go.via st119 ?_
  show Go p.tables e below _ (T119.setTop (mkF m 13 #[.val (.ref a), .val (.int i)] [(.ref la)]))
  refine Go.via (B := T119.setTop (mkF m 14 #[.val (.ref a), .val (.int i)] [(.int i), (.ref la)])) (fun t_ k_ => ?_) ?_
  · show Steps p.tables e below (T119.setTop (mkF m 13 #[.val (.ref a), .val (.int i)] [(.ref la)])) t_
    refine XS.iloadN X119.here hx rfl (hb hby d11_13) rfl ?_
    show Steps p.tables e below (T119.setTop (mkF m 14 #[.val (.ref a), .val (.int i)] [(.int i), (.ref la)])) t_
    exact k_
  refine Go.via (B := T119.setTop (mkF m 15 #[.val (.ref a), .val (.int i)] [(.int (lf i.toNatClampNeg))])) (fun t_ k_ => agetI X119 hx hZ e119 H.2.2.1 hi.1 (by omega) (g := (mkF m 14 #[.val (.ref a), .val (.int i)] [(.int i), (.ref la)])) rfl rfl (hb hby d11_14) t_ k_) ?_
  refine Go.via (B := T119.setTop (mkF m 19 #[.val (.ref a), .val (.int i)] [(.int (lf i.toNatClampNeg))])) (fun t_ k_ => ?_) ?_
  · show Steps p.tables e below (T119.setTop (mkF m 15 #[.val (.ref a), .val (.int i)] [(.int (lf i.toNatClampNeg))])) t_
    refine XS.goto X119.here hx rfl (pc0 := 15) (pc' := 19) rfl (hb hby d11_15) (by decide) (by decide) ?_
    show Steps p.tables e below (T119.setTop (mkF m 19 #[.val (.ref a), .val (.int i)] [(.int (lf i.toNatClampNeg))])) t_
    exact k_
  exact Go.leave X119 hlk (v := (some (.int (lf i.toNatClampNeg)))) (fun h => by rw [hrt] at h; cases h) (fun fs hr => retI X119 hx hrt (hb hby d11_19) hr) (by decide) (by decide) (⟨rfl, N0, e119⟩)
theorem d13_0 : decode prog_47_method_12_code 0 = .ok (.aload_n 0, 1) := by decide +kernel
theorem d13_1 : decode prog_47_method_12_code 1 = .ok (.getfield 24, 3) := by decide +kernel
theorem d13_4 : decode prog_47_method_12_code 4 = .ok (.ireturn, 1) := by decide +kernel
theorem pn_13 : plainName "com/example/bytewright/bytewright/classfile/Frame" = true := by first | (simp [plainName, overriddenIn]; done) | decide +kernel
theorem ef_13 (m : MethodId) (x0 : Addr) : entryFrame m #[(.ref x0)] 1 = mkF m 0 #[.val (.ref x0)] [] := by first | (simp [entryFrame, mkF, argsToLocals, Value.category]; done) | rfl
def Q13 (Z : State) (a : Addr) (la : Addr) (lf : Nat → Int32) (sa : Addr) (sn : Nat) (sf : Nat → Int32) (ss : Int32) (sw : Int32) (h0 : Heap) (n0 : Nat) (v : Option Value) (h : Heap) (L : List Loc) : Prop := v = some (.int ss) ∧ Fr n0 L ∧ h = h0
set_option maxRecDepth 65536 in
set_option maxHeartbeats 40000000 in
theorem rm13 (l : Launch) (Z : State) (a0 : Array Value) (hw : ∀ d ∈ tables_1, d.before a0 Z = true) (ws : List Jvm.Cond) (a : Addr) (la : Addr) (lf : Nat → Int32) (sa : Addr) (sn : Nat) (sf : Nat → Int32) (ss : Int32) (sw : Int32) (h0 : Heap) (n0 : Nat) (Z0 : n0 ≤ h0.size) (H : FP Z h0 a la lf sa sn sf ss sw) :
    MetFree l (⟨"com/example/bytewright/bytewright/classfile/Frame", "stackSize", "()I"⟩ : MethodName) (head1 (Jvm.Cond.code (⟨"com/example/bytewright/bytewright/classfile/Frame", "stackSize", "()I"⟩ : MethodName) prog_47_method_12_code 1 (some .int) :: ws) ({ frames := 0, cells := 0, slots := 0, locals := 0 } : Room)) (fun a_ U_ => a_ = #[(.ref a)] ∧ Z.Warmed39 U_.vm ∧ U_.heap = h0) (fun _ _ _ _ _ => True) (fun _ U_ o_ V_ => ∃ v_ L_, o_ = .returned v_ ∧ Q13 Z a la lf sa sn sf ss sw h0 n0 v_ V_.heap L_ ∧ FrameEnd U_ o_ V_ L_ ({ frames := 0, cells := 0, slots := 0, locals := 0 } : Room).cells ({ frames := 0, cells := 0, slots := 0, locals := 0 } : Room).slots) := by
  refine MetFree.of_bodySF (plainFor_of_name pn_13) hisR ?_
  intro p e s m args below meth c s₁ Bd hml0 hP hK
  obtain ⟨rfl, hZ, hh⟩ := hP
  have hx := Bd.exec
  have hby := Bd.bytes
  have hml : c.maxLocals = 1 := hml0
  have hown : s.vm.findClass "com/example/bytewright/bytewright/classfile/Frame" = some m.cls := findClass_of_methodNamed Bd.named
  have hnm := (name_of_methodNamed Bd.named Bd.method).1
  have hlk : meth.locks = false := BodyLoose.notSynchronized Bd
  have hrt := Bd.returns
  have X0 : Stand p l e ({ frames := 0, cells := 0, slots := 0, locals := 0 } : Room) s m #[(.ref a)] below meth c s₁ [] 0 0 := Stand.of_body Bd
  have e0 : s₁.heap = h0 := by rw [← hh, Bd.state]; rfl
  have N0 := Fr.nil n0
  show Go p.tables e below (PQ s below (Q13 Z a la lf sa sn sf ss sw h0 n0) 0 0) _
  refine Go.via (B := s₁.setTop (mkF m 0 #[.val (.ref a)] [])) (fun t_ k_ => castTop (ef_13 m a) k_) ?_
  refine Go.via (B := s₁.setTop (mkF m 1 #[.val (.ref a)] [(.ref a)])) (fun t_ k_ => ?_) ?_
  · show Steps p.tables e below (s₁.setTop (mkF m 0 #[.val (.ref a)] [])) t_
    refine XS.aloadN X0.here hx rfl (hb hby d13_0) rfl rfl ?_
    show Steps p.tables e below (s₁.setTop (mkF m 1 #[.val (.ref a)] [(.ref a)])) t_
    exact k_
  obtain ⟨T120, X120, e120, st120⟩ := getF X0 hx hZ hown (host := "") (Or.inl (hw _ (List.mem_of_getElem? (i := 34) rfl))) Via.refl e0 H.2.1.2.2.1 (g := (mkF m 1 #[.val (.ref a)] [(.ref a)])) rfl rfl (hb hby d13_1)
  refine Go.via st120 ?_
  show Go p.tables e below _ (T120.setTop (mkF m 4 #[.val (.ref a)] [(.int ss)]))
  exact Go.leave X120 hlk (v := (some (.int ss))) (fun h => by rw [hrt] at h; cases h) (fun fs hr => retI X120 hx hrt (hb hby d13_4) hr) (by decide) (by decide) (⟨rfl, N0, e120⟩)
theorem d14_0 : decode prog_47_method_14_code 0 = .ok (.aload_n 0, 1) := by decide +kernel
theorem d14_1 : decode prog_47_method_14_code 1 = .ok (.getfield 16, 3) := by decide +kernel
theorem d14_4 : decode prog_47_method_14_code 4 = .ok (.iload_n 1, 1) := by decide +kernel
theorem d14_5 : decode prog_47_method_14_code 5 = .ok (.iaload, 1) := by decide +kernel
theorem d14_6 : decode prog_47_method_14_code 6 = .ok (.ireturn, 1) := by decide +kernel
theorem pn_14 : plainName "com/example/bytewright/bytewright/classfile/Frame" = true := by first | (simp [plainName, overriddenIn]; done) | decide +kernel
theorem ef_14 (m : MethodId) (x0 : Addr) (x1 : Int32) : entryFrame m #[(.ref x0), (.int x1)] 2 = mkF m 0 #[.val (.ref x0), .val (.int x1)] [] := by first | (simp [entryFrame, mkF, argsToLocals, Value.category]; done) | rfl
def Q14 (Z : State) (a : Addr) (i : Int32) (la : Addr) (lf : Nat → Int32) (sa : Addr) (sn : Nat) (sf : Nat → Int32) (ss : Int32) (sw : Int32) (h0 : Heap) (n0 : Nat) (v : Option Value) (h : Heap) (L : List Loc) : Prop := v = some (.int (sf i.toNatClampNeg)) ∧ Fr n0 L ∧ h = h0
set_option maxRecDepth 65536 in
set_option maxHeartbeats 40000000 in
theorem rm14 (l : Launch) (Z : State) (a0 : Array Value) (hw : ∀ d ∈ tables_1, d.before a0 Z = true) (ws : List Jvm.Cond) (a : Addr) (i : Int32) (la : Addr) (lf : Nat → Int32) (sa : Addr) (sn : Nat) (sf : Nat → Int32) (ss : Int32) (sw : Int32) (h0 : Heap) (n0 : Nat) (Z0 : n0 ≤ h0.size) (H : FP Z h0 a la lf sa sn sf ss sw) (h0i : 0 ≤ i.toInt) (h1i : i.toInt < sn) :
    MetFree l (⟨"com/example/bytewright/bytewright/classfile/Frame", "stackValue", "(I)I"⟩ : MethodName) (head1 (Jvm.Cond.code (⟨"com/example/bytewright/bytewright/classfile/Frame", "stackValue", "(I)I"⟩ : MethodName) prog_47_method_14_code 2 (some .int) :: ws) ({ frames := 0, cells := 0, slots := 0, locals := 0 } : Room)) (fun a_ U_ => a_ = #[(.ref a), (.int i)] ∧ Z.Warmed39 U_.vm ∧ U_.heap = h0) (fun _ _ _ _ _ => True) (fun _ U_ o_ V_ => ∃ v_ L_, o_ = .returned v_ ∧ Q14 Z a i la lf sa sn sf ss sw h0 n0 v_ V_.heap L_ ∧ FrameEnd U_ o_ V_ L_ ({ frames := 0, cells := 0, slots := 0, locals := 0 } : Room).cells ({ frames := 0, cells := 0, slots := 0, locals := 0 } : Room).slots) := by
  refine MetFree.of_bodySF (plainFor_of_name pn_14) hisR ?_
  intro p e s m args below meth c s₁ Bd hml0 hP hK
  obtain ⟨rfl, hZ, hh⟩ := hP
  have hx := Bd.exec
  have hby := Bd.bytes
  have hml : c.maxLocals = 2 := hml0
  have hown : s.vm.findClass "com/example/bytewright/bytewright/classfile/Frame" = some m.cls := findClass_of_methodNamed Bd.named
  have hnm := (name_of_methodNamed Bd.named Bd.method).1
  have hlk : meth.locks = false := BodyLoose.notSynchronized Bd
  have hrt := Bd.returns
  have X0 : Stand p l e ({ frames := 0, cells := 0, slots := 0, locals := 0 } : Room) s m #[(.ref a), (.int i)] below meth c s₁ [] 0 0 := Stand.of_body Bd
  have e0 : s₁.heap = h0 := by rw [← hh, Bd.state]; rfl
  have N0 := Fr.nil n0
  show Go p.tables e below (PQ s below (Q14 Z a i la lf sa sn sf ss sw h0 n0) 0 0) _
  refine Go.via (B := s₁.setTop (mkF m 0 #[.val (.ref a), .val (.int i)] [])) (fun t_ k_ => castTop (ef_14 m a i) k_) ?_
  have hi := own_nat h0i
  refine Go.via (B := s₁.setTop (mkF m 1 #[.val (.ref a), .val (.int i)] [(.ref a)])) (fun t_ k_ => ?_) ?_
  · show Steps p.tables e below (s₁.setTop (mkF m 0 #[.val (.ref a), .val (.int i)] [])) t_
    refine XS.aloadN X0.here hx rfl (hb hby d14_0) rfl rfl ?_
    show Steps p.tables e below (s₁.setTop (mkF m 1 #[.val (.ref a), .val (.int i)] [(.ref a)])) t_
    exact k_
  obtain ⟨T121, X121, e121, st121⟩ := getF X0 hx hZ hown (host := "") (Or.inl (hw _ (List.mem_of_getElem? (i := 18) rfl))) Via.refl e0 H.2.1.2.1 (g := (mkF m 1 #[.val (.ref a), .val (.int i)] [(.ref a)])) rfl rfl (hb hby d14_1)
  refine Go.via st121 ?_
  show Go p.tables e below _ (T121.setTop (mkF m 4 #[.val (.ref a), .val (.int i)] [(.ref sa)]))
  refine Go.via (B := T121.setTop (mkF m 5 #[.val (.ref a), .val (.int i)] [(.int i), (.ref sa)])) (fun t_ k_ => ?_) ?_
  · show Steps p.tables e below (T121.setTop (mkF m 4 #[.val (.ref a), .val (.int i)] [(.ref sa)])) t_
    refine XS.iloadN X121.here hx rfl (hb hby d14_4) rfl ?_
    show Steps p.tables e below (T121.setTop (mkF m 5 #[.val (.ref a), .val (.int i)] [(.int i), (.ref sa)])) t_
    exact k_
  refine Go.via (B := T121.setTop (mkF m 6 #[.val (.ref a), .val (.int i)] [(.int (sf i.toNatClampNeg))])) (fun t_ k_ => agetI X121 hx hZ e121 H.2.2.2.1 hi.1 (by omega) (g := (mkF m 5 #[.val (.ref a), .val (.int i)] [(.int i), (.ref sa)])) rfl rfl (hb hby d14_5) t_ k_) ?_
  exact Go.leave X121 hlk (v := (some (.int (sf i.toNatClampNeg)))) (fun h => by rw [hrt] at h; cases h) (fun fs hr => retI X121 hx hrt (hb hby d14_6) hr) (by decide) (by decide) (⟨rfl, N0, e121⟩)
theorem pn_0 : plainName "com/example/bytewright/bytewright/classfile/FrameReplacePinLaw" = true := by first | (simp [plainName, overriddenIn]; done) | decide +kernel
theorem ef_0 (m : MethodId) (x0 : Int32) (x1 : Int32) (x2 : Int32) (x3 : Int32) (x4 : Int32) : entryFrame m #[(.int x0), (.int x1), (.int x2), (.int x3), (.int x4)] maxLocals = mkF m 0 #[.val (.int x0), .val (.int x1), .val (.int x2), .val (.int x3), .val (.int x4), .unset, .unset, .unset, .unset] [] := by first | (simp [entryFrame, mkF, argsToLocals, Value.category, maxLocals]; done) | rfl
def Q0 (Z : State) (px : Int32) (py : Int32) (p2 : Int32) (p3 : Int32) (p4 : Int32) (nv : Addr) (h0 : Heap) (n0 : Nat) (v : Option Value) (h : Heap) (L : List Loc) : Prop := v = some (.int 1) ∧ Fr n0 L
set_option maxRecDepth 65536 in
set_option maxHeartbeats 40000000 in
theorem rm0 (l : Launch) (Z : State) (a0 : Array Value) (hw : ∀ d ∈ tables_1, d.before a0 Z = true) (ws : List Jvm.Cond) (px : Int32) (py : Int32) (p2 : Int32) (p3 : Int32) (p4 : Int32) (nv : Addr) (h0 : Heap) (n0 : Nat) (Z0 : n0 ≤ h0.size) (S : Sta Z h0 "com/example/bytewright/bytewright/classfile/Frame" "NO_VALUES" "[I" (.ref nv)) (An : Ary Z h0 nv .int 0 (fun _ => 0)) (hnv : nv < n0) :
    MetFree l x (head1 (Jvm.Cond.code x code maxLocals ret :: ws) room_1) (fun a_ U_ => a_ = #[(.int px), (.int py), (.int p2), (.int p3), (.int p4)] ∧ Z.Warmed39 U_.vm ∧ U_.heap = h0) (fun _ _ _ _ _ => True) (fun _ U_ o_ V_ => ∃ v_ L_, o_ = .returned v_ ∧ Q0 Z px py p2 p3 p4 nv h0 n0 v_ V_.heap L_ ∧ FrameEnd U_ o_ V_ L_ 16 128) := by
  refine MetFree.of_bodySF (plainFor_of_name pn_0) hisR ?_
  intro p e s m args below meth c s₁ Bd hml0 hP hK
  obtain ⟨rfl, hZ, hh⟩ := hP
  have hx := Bd.exec
  have hby := Bd.bytes
  have hml : c.maxLocals = 9 := hml0
  have hown : s.vm.findClass "com/example/bytewright/bytewright/classfile/FrameReplacePinLaw" = some m.cls := findClass_of_methodNamed Bd.named
  have hnm := (name_of_methodNamed Bd.named Bd.method).1
  have hlk : meth.locks = false := BodyLoose.notSynchronized Bd
  have hrt := Bd.returns
  have X0 : Stand p l e room_1 s m #[(.int px), (.int py), (.int p2), (.int p3), (.int p4)] below meth c s₁ [] 0 0 := Stand.of_body Bd
  have e0 : s₁.heap = h0 := by rw [← hh, Bd.state]; rfl
  have N0 := Fr.nil n0
  show Go p.tables e below (PQ s below (Q0 Z px py p2 p3 p4 nv h0 n0) 16 128) _
  refine Go.via (B := s₁.setTop (mkF m 0 #[.val (.int px), .val (.int py), .val (.int p2), .val (.int p3), .val (.int p4), .unset, .unset, .unset, .unset] [])) (fun t_ k_ => castTop (ef_0 m px py p2 p3 p4) k_) ?_
  refine Go.via (B := s₁.setTop (mkF m 6 #[.val (.int px), .val (.int py), .val (.int p2), .val (.int p3), .val (.int p4), .unset, .unset, .unset, .unset] [(.int p3), (.int p2), (.int py), (.int px), (.int p4)])) (fun t_ k_ => ?_) ?_
  · show Steps p.tables e below (s₁.setTop (mkF m 0 #[.val (.int px), .val (.int py), .val (.int p2), .val (.int p3), .val (.int p4), .unset, .unset, .unset, .unset] [])) t_
    refine XS.iload X0.here hx rfl (hb hby at_0) rfl ?_
    show Steps p.tables e below (s₁.setTop (mkF m 2 #[.val (.int px), .val (.int py), .val (.int p2), .val (.int p3), .val (.int p4), .unset, .unset, .unset, .unset] [(.int p4)])) t_
    refine XS.iloadN X0.here hx rfl (hb hby at_2) rfl ?_
    show Steps p.tables e below (s₁.setTop (mkF m 3 #[.val (.int px), .val (.int py), .val (.int p2), .val (.int p3), .val (.int p4), .unset, .unset, .unset, .unset] [(.int px), (.int p4)])) t_
    refine XS.iloadN X0.here hx rfl (hb hby at_3) rfl ?_
    show Steps p.tables e below (s₁.setTop (mkF m 4 #[.val (.int px), .val (.int py), .val (.int p2), .val (.int p3), .val (.int p4), .unset, .unset, .unset, .unset] [(.int py), (.int px), (.int p4)])) t_
    refine XS.iloadN X0.here hx rfl (hb hby at_4) rfl ?_
    show Steps p.tables e below (s₁.setTop (mkF m 5 #[.val (.int px), .val (.int py), .val (.int p2), .val (.int p3), .val (.int p4), .unset, .unset, .unset, .unset] [(.int p2), (.int py), (.int px), (.int p4)])) t_
    refine XS.iloadN X0.here hx rfl (hb hby at_5) rfl ?_
    show Steps p.tables e below (s₁.setTop (mkF m 6 #[.val (.int px), .val (.int py), .val (.int p2), .val (.int p3), .val (.int p4), .unset, .unset, .unset, .unset] [(.int p3), (.int p2), (.int py), (.int px), (.int p4)])) t_
    exact k_
  obtain ⟨_, _, ⟨T122, L122, k122, n122⟩, -, X122, ⟨Lc122, hQ122, l122, y122, z122⟩, st122⟩ := Jvm.LawKit.callS X0 hx (y := (⟨"com/example/bytewright/bytewright/classfile/FrameReplacePinLaw", "pick", "(IIIII)I"⟩ : MethodName)) hown (mvT hZ (hw _ (List.mem_of_getElem? (i := 0) rfl))) (mvT hZ (hw _ (List.mem_of_getElem? (i := 1) rfl))) (mvT hZ (hw _ (List.mem_of_getElem? (i := 2) rfl))) (mvT hZ (hw _ (List.mem_of_getElem? (i := 3) rfl))) (by decide) (backOf (W := 0) (rm1 l Z a0 hw [] p4 px py p2 p3  h0 n0 Z0 ) hZ (hw _ (List.mem_of_getElem? (i := 3) rfl)) (hw _ (List.mem_of_getElem? (i := 2) rfl)) (by decide) (by decide)) (g := (mkF m 6 #[.val (.int px), .val (.int py), .val (.int p2), .val (.int p3), .val (.int p4), .unset, .unset, .unset, .unset] [(.int p3), (.int p2), (.int py), (.int px), (.int p4)])) rfl (by rw [hml]; rfl) (argsL := [(.int p4), (.int px), (.int py), (.int p2), (.int p3)]) (rest := []) (lenOf pd3 rfl) rfl (by show 2 * 0 + _ ≤ _; exact Nat.le_of_eq rfl) (hb hby at_6) (fun _ _ => ⟨rfl, e0, (by decide : 0 + 0 ≤ _), (by decide : 0 + 0 ≤ _)⟩)
  dsimp only [Pt.U, Pt.locs, Pt.cells, Pt.slots] at X122 l122 y122 z122 st122 hQ122
  subst l122 y122 z122
  obtain ⟨rfl, N122q, e122⟩ := hQ122
  have N122 := Fr.app N0 N122q
  refine Go.via st122 ?_
  show Go p.tables e below _ (T122.setTop (mkF m 9 #[.val (.int px), .val (.int py), .val (.int p2), .val (.int p3), .val (.int p4), .unset, .unset, .unset, .unset] [(.int (F1_0 p4 px py p2 p3))]))
  generalize F1_0 p4 px py p2 p3 = v0
  refine Go.via (B := T122.setTop (mkF m 19 #[.val (.int px), .val (.int py), .val (.int p2), .val (.int p3), .val (.int p4), .val (.int v0), .unset, .unset, .unset] [(.int p3), (.int p2), (.int py), (.int px), (.int ((p4.toUInt32 >>> ((2 : Int32) &&& 31).toUInt32).toInt32))])) (fun t_ k_ => ?_) ?_
  · show Steps p.tables e below (T122.setTop (mkF m 9 #[.val (.int px), .val (.int py), .val (.int p2), .val (.int p3), .val (.int p4), .unset, .unset, .unset, .unset] [(.int v0)])) t_
    refine XS.istore X122.here hx rfl (hb hby at_9) rfl (l' := #[.val (.int px), .val (.int py), .val (.int p2), .val (.int p3), .val (.int p4), .val (.int v0), .unset, .unset, .unset]) rfl ?_
    show Steps p.tables e below (T122.setTop (mkF m 11 #[.val (.int px), .val (.int py), .val (.int p2), .val (.int p3), .val (.int p4), .val (.int v0), .unset, .unset, .unset] [])) t_
    refine XS.iload X122.here hx rfl (hb hby at_11) rfl ?_
    show Steps p.tables e below (T122.setTop (mkF m 13 #[.val (.int px), .val (.int py), .val (.int p2), .val (.int p3), .val (.int p4), .val (.int v0), .unset, .unset, .unset] [(.int p4)])) t_
    refine XS.iconst X122.here hx rfl (hb hby at_13) ?_
    show Steps p.tables e below (T122.setTop (mkF m 14 #[.val (.int px), .val (.int py), .val (.int p2), .val (.int p3), .val (.int p4), .val (.int v0), .unset, .unset, .unset] [(.int (2 : Int32)), (.int p4)])) t_
    refine XS.iushr X122.here hx rfl (hb hby at_14) rfl ?_
    show Steps p.tables e below (T122.setTop (mkF m 15 #[.val (.int px), .val (.int py), .val (.int p2), .val (.int p3), .val (.int p4), .val (.int v0), .unset, .unset, .unset] [(.int ((p4.toUInt32 >>> ((2 : Int32) &&& 31).toUInt32).toInt32))])) t_
    refine XS.iloadN X122.here hx rfl (hb hby at_15) rfl ?_
    show Steps p.tables e below (T122.setTop (mkF m 16 #[.val (.int px), .val (.int py), .val (.int p2), .val (.int p3), .val (.int p4), .val (.int v0), .unset, .unset, .unset] [(.int px), (.int ((p4.toUInt32 >>> ((2 : Int32) &&& 31).toUInt32).toInt32))])) t_
    refine XS.iloadN X122.here hx rfl (hb hby at_16) rfl ?_
    show Steps p.tables e below (T122.setTop (mkF m 17 #[.val (.int px), .val (.int py), .val (.int p2), .val (.int p3), .val (.int p4), .val (.int v0), .unset, .unset, .unset] [(.int py), (.int px), (.int ((p4.toUInt32 >>> ((2 : Int32) &&& 31).toUInt32).toInt32))])) t_
    refine XS.iloadN X122.here hx rfl (hb hby at_17) rfl ?_
    show Steps p.tables e below (T122.setTop (mkF m 18 #[.val (.int px), .val (.int py), .val (.int p2), .val (.int p3), .val (.int p4), .val (.int v0), .unset, .unset, .unset] [(.int p2), (.int py), (.int px), (.int ((p4.toUInt32 >>> ((2 : Int32) &&& 31).toUInt32).toInt32))])) t_
    refine XS.iloadN X122.here hx rfl (hb hby at_18) rfl ?_
    show Steps p.tables e below (T122.setTop (mkF m 19 #[.val (.int px), .val (.int py), .val (.int p2), .val (.int p3), .val (.int p4), .val (.int v0), .unset, .unset, .unset] [(.int p3), (.int p2), (.int py), (.int px), (.int ((p4.toUInt32 >>> ((2 : Int32) &&& 31).toUInt32).toInt32))])) t_
    exact k_
  obtain ⟨_, _, ⟨T123, L123, k123, n123⟩, -, X123, ⟨Lc123, hQ123, l123, y123, z123⟩, st123⟩ := Jvm.LawKit.callS X122 hx (y := (⟨"com/example/bytewright/bytewright/classfile/FrameReplacePinLaw", "pick", "(IIIII)I"⟩ : MethodName)) hown (mvT hZ (hw _ (List.mem_of_getElem? (i := 0) rfl))) (mvT hZ (hw _ (List.mem_of_getElem? (i := 1) rfl))) (mvT hZ (hw _ (List.mem_of_getElem? (i := 2) rfl))) (mvT hZ (hw _ (List.mem_of_getElem? (i := 3) rfl))) (by decide) (backOf (W := 0) (rm1 l Z a0 hw [] ((p4.toUInt32 >>> ((2 : Int32) &&& 31).toUInt32).toInt32) px py p2 p3  h0 n0 Z0 ) hZ (hw _ (List.mem_of_getElem? (i := 3) rfl)) (hw _ (List.mem_of_getElem? (i := 2) rfl)) (by decide) (by decide)) (g := (mkF m 19 #[.val (.int px), .val (.int py), .val (.int p2), .val (.int p3), .val (.int p4), .val (.int v0), .unset, .unset, .unset] [(.int p3), (.int p2), (.int py), (.int px), (.int ((p4.toUInt32 >>> ((2 : Int32) &&& 31).toUInt32).toInt32))])) rfl (by rw [hml]; rfl) (argsL := [(.int ((p4.toUInt32 >>> ((2 : Int32) &&& 31).toUInt32).toInt32)), (.int px), (.int py), (.int p2), (.int p3)]) (rest := []) (lenOf pd3 rfl) rfl (by show 2 * 0 + _ ≤ _; exact Nat.le_of_eq rfl) (hb hby at_19) (fun _ _ => ⟨rfl, e122, (by decide : 0 + 0 ≤ _), (by decide : 0 + 0 ≤ _)⟩)
  dsimp only [Pt.U, Pt.locs, Pt.cells, Pt.slots] at X123 l123 y123 z123 st123 hQ123
  subst l123 y123 z123
  obtain ⟨rfl, N123q, e123⟩ := hQ123
  have N123 := Fr.app N122 N123q
  refine Go.via st123 ?_
  show Go p.tables e below _ (T123.setTop (mkF m 22 #[.val (.int px), .val (.int py), .val (.int p2), .val (.int p3), .val (.int p4), .val (.int v0), .unset, .unset, .unset] [(.int (F1_0 ((p4.toUInt32 >>> ((2 : Int32) &&& 31).toUInt32).toInt32) px py p2 p3))]))
  generalize F1_0 ((p4.toUInt32 >>> ((2 : Int32) &&& 31).toUInt32).toInt32) px py p2 p3 = s0
  refine Go.via (B := T123.setTop (mkF m 32 #[.val (.int px), .val (.int py), .val (.int p2), .val (.int p3), .val (.int p4), .val (.int v0), .val (.int s0), .unset, .unset] [(.int p3), (.int p2), (.int py), (.int px), (.int ((p4.toUInt32 >>> ((4 : Int32) &&& 31).toUInt32).toInt32))])) (fun t_ k_ => ?_) ?_
  · show Steps p.tables e below (T123.setTop (mkF m 22 #[.val (.int px), .val (.int py), .val (.int p2), .val (.int p3), .val (.int p4), .val (.int v0), .unset, .unset, .unset] [(.int s0)])) t_
    refine XS.istore X123.here hx rfl (hb hby at_22) rfl (l' := #[.val (.int px), .val (.int py), .val (.int p2), .val (.int p3), .val (.int p4), .val (.int v0), .val (.int s0), .unset, .unset]) rfl ?_
    show Steps p.tables e below (T123.setTop (mkF m 24 #[.val (.int px), .val (.int py), .val (.int p2), .val (.int p3), .val (.int p4), .val (.int v0), .val (.int s0), .unset, .unset] [])) t_
    refine XS.iload X123.here hx rfl (hb hby at_24) rfl ?_
    show Steps p.tables e below (T123.setTop (mkF m 26 #[.val (.int px), .val (.int py), .val (.int p2), .val (.int p3), .val (.int p4), .val (.int v0), .val (.int s0), .unset, .unset] [(.int p4)])) t_
    refine XS.iconst X123.here hx rfl (hb hby at_26) ?_
    show Steps p.tables e below (T123.setTop (mkF m 27 #[.val (.int px), .val (.int py), .val (.int p2), .val (.int p3), .val (.int p4), .val (.int v0), .val (.int s0), .unset, .unset] [(.int (4 : Int32)), (.int p4)])) t_
    refine XS.iushr X123.here hx rfl (hb hby at_27) rfl ?_
    show Steps p.tables e below (T123.setTop (mkF m 28 #[.val (.int px), .val (.int py), .val (.int p2), .val (.int p3), .val (.int p4), .val (.int v0), .val (.int s0), .unset, .unset] [(.int ((p4.toUInt32 >>> ((4 : Int32) &&& 31).toUInt32).toInt32))])) t_
    refine XS.iloadN X123.here hx rfl (hb hby at_28) rfl ?_
    show Steps p.tables e below (T123.setTop (mkF m 29 #[.val (.int px), .val (.int py), .val (.int p2), .val (.int p3), .val (.int p4), .val (.int v0), .val (.int s0), .unset, .unset] [(.int px), (.int ((p4.toUInt32 >>> ((4 : Int32) &&& 31).toUInt32).toInt32))])) t_
    refine XS.iloadN X123.here hx rfl (hb hby at_29) rfl ?_
    show Steps p.tables e below (T123.setTop (mkF m 30 #[.val (.int px), .val (.int py), .val (.int p2), .val (.int p3), .val (.int p4), .val (.int v0), .val (.int s0), .unset, .unset] [(.int py), (.int px), (.int ((p4.toUInt32 >>> ((4 : Int32) &&& 31).toUInt32).toInt32))])) t_
    refine XS.iloadN X123.here hx rfl (hb hby at_30) rfl ?_
    show Steps p.tables e below (T123.setTop (mkF m 31 #[.val (.int px), .val (.int py), .val (.int p2), .val (.int p3), .val (.int p4), .val (.int v0), .val (.int s0), .unset, .unset] [(.int p2), (.int py), (.int px), (.int ((p4.toUInt32 >>> ((4 : Int32) &&& 31).toUInt32).toInt32))])) t_
    refine XS.iloadN X123.here hx rfl (hb hby at_31) rfl ?_
    show Steps p.tables e below (T123.setTop (mkF m 32 #[.val (.int px), .val (.int py), .val (.int p2), .val (.int p3), .val (.int p4), .val (.int v0), .val (.int s0), .unset, .unset] [(.int p3), (.int p2), (.int py), (.int px), (.int ((p4.toUInt32 >>> ((4 : Int32) &&& 31).toUInt32).toInt32))])) t_
    exact k_
  obtain ⟨_, _, ⟨T124, L124, k124, n124⟩, -, X124, ⟨Lc124, hQ124, l124, y124, z124⟩, st124⟩ := Jvm.LawKit.callS X123 hx (y := (⟨"com/example/bytewright/bytewright/classfile/FrameReplacePinLaw", "pick", "(IIIII)I"⟩ : MethodName)) hown (mvT hZ (hw _ (List.mem_of_getElem? (i := 0) rfl))) (mvT hZ (hw _ (List.mem_of_getElem? (i := 1) rfl))) (mvT hZ (hw _ (List.mem_of_getElem? (i := 2) rfl))) (mvT hZ (hw _ (List.mem_of_getElem? (i := 3) rfl))) (by decide) (backOf (W := 0) (rm1 l Z a0 hw [] ((p4.toUInt32 >>> ((4 : Int32) &&& 31).toUInt32).toInt32) px py p2 p3  h0 n0 Z0 ) hZ (hw _ (List.mem_of_getElem? (i := 3) rfl)) (hw _ (List.mem_of_getElem? (i := 2) rfl)) (by decide) (by decide)) (g := (mkF m 32 #[.val (.int px), .val (.int py), .val (.int p2), .val (.int p3), .val (.int p4), .val (.int v0), .val (.int s0), .unset, .unset] [(.int p3), (.int p2), (.int py), (.int px), (.int ((p4.toUInt32 >>> ((4 : Int32) &&& 31).toUInt32).toInt32))])) rfl (by rw [hml]; rfl) (argsL := [(.int ((p4.toUInt32 >>> ((4 : Int32) &&& 31).toUInt32).toInt32)), (.int px), (.int py), (.int p2), (.int p3)]) (rest := []) (lenOf pd3 rfl) rfl (by show 2 * 0 + _ ≤ _; exact Nat.le_of_eq rfl) (hb hby at_32) (fun _ _ => ⟨rfl, e123, (by decide : 0 + 0 ≤ _), (by decide : 0 + 0 ≤ _)⟩)
  dsimp only [Pt.U, Pt.locs, Pt.cells, Pt.slots] at X124 l124 y124 z124 st124 hQ124
  subst l124 y124 z124
  obtain ⟨rfl, N124q, e124⟩ := hQ124
  have N124 := Fr.app N123 N124q
  refine Go.via st124 ?_
  show Go p.tables e below _ (T124.setTop (mkF m 35 #[.val (.int px), .val (.int py), .val (.int p2), .val (.int p3), .val (.int p4), .val (.int v0), .val (.int s0), .unset, .unset] [(.int (F1_0 ((p4.toUInt32 >>> ((4 : Int32) &&& 31).toUInt32).toInt32) px py p2 p3))]))
  generalize F1_0 ((p4.toUInt32 >>> ((4 : Int32) &&& 31).toUInt32).toInt32) px py p2 p3 = s1
  refine Go.via (B := T124.setTop (mkF m 37 #[.val (.int px), .val (.int py), .val (.int p2), .val (.int p3), .val (.int p4), .val (.int v0), .val (.int s0), .val (.int s1), .unset] [])) (fun t_ k_ => ?_) ?_
  · show Steps p.tables e below (T124.setTop (mkF m 35 #[.val (.int px), .val (.int py), .val (.int p2), .val (.int p3), .val (.int p4), .val (.int v0), .val (.int s0), .unset, .unset] [(.int s1)])) t_
    refine XS.istore X124.here hx rfl (hb hby at_35) rfl (l' := #[.val (.int px), .val (.int py), .val (.int p2), .val (.int p3), .val (.int p4), .val (.int v0), .val (.int s0), .val (.int s1), .unset]) rfl ?_
    show Steps p.tables e below (T124.setTop (mkF m 37 #[.val (.int px), .val (.int py), .val (.int p2), .val (.int p3), .val (.int p4), .val (.int v0), .val (.int s0), .val (.int s1), .unset] [])) t_
    exact k_
  obtain ⟨T125, h125, X125, e125, E125, A125, D125, -, st125⟩ := newO X124 hx hZ hown (hw _ (List.mem_of_getElem? (i := 4) rfl)) (hw _ (List.mem_of_getElem? (i := 5) rfl)) (hw _ (List.mem_of_getElem? (i := 6) rfl)) e124 (g := (mkF m 37 #[.val (.int px), .val (.int py), .val (.int p2), .val (.int p3), .val (.int p4), .val (.int v0), .val (.int s0), .val (.int s1), .unset] [])) rfl (hb hby at_37) (by decide) (by decide)
  obtain ⟨b125, g125⟩ : ∃ z, z = h0.size := ⟨_, rfl⟩
  rw [← g125] at A125 D125 st125
  have gb125 : n0 ≤ b125 := Nat.le_trans Z0 (Nat.le_of_eq g125.symm)
  have Z125 : n0 ≤ h125.size := Nat.le_trans Z0 E125.1
  refine Go.via st125 ?_
  show Go p.tables e below _ (T125.setTop (mkF m 40 #[.val (.int px), .val (.int py), .val (.int p2), .val (.int p3), .val (.int p4), .val (.int v0), .val (.int s0), .val (.int s1), .unset] [(.ref b125)]))
  have D_locals := D125 (Or.inl (hw _ (List.mem_of_getElem? (i := 15) rfl))) (ty := (.array .int)) (by decide)
  have D_stack := D125 (Or.inl (hw _ (List.mem_of_getElem? (i := 19) rfl))) (ty := (.array .int)) (by decide)
  have D_stackSize := D125 (Or.inl (hw _ (List.mem_of_getElem? (i := 35) rfl))) (ty := .int) (by decide)
  have D_stackWords := D125 (Or.inl (hw _ (List.mem_of_getElem? (i := 52) rfl))) (ty := .int) (by decide)
  have ga := gb125
  refine Go.via (B := T125.setTop (mkF m 42 #[.val (.int px), .val (.int py), .val (.int p2), .val (.int p3), .val (.int p4), .val (.int v0), .val (.int s0), .val (.int s1), .unset] [(.int (2 : Int32)), (.ref b125), (.ref b125)])) (fun t_ k_ => ?_) ?_
  · show Steps p.tables e below (T125.setTop (mkF m 40 #[.val (.int px), .val (.int py), .val (.int p2), .val (.int p3), .val (.int p4), .val (.int v0), .val (.int s0), .val (.int s1), .unset] [(.ref b125)])) t_
    refine XS.dup X125.here hx rfl (hb hby at_40) rfl rfl ?_
    show Steps p.tables e below (T125.setTop (mkF m 41 #[.val (.int px), .val (.int py), .val (.int p2), .val (.int p3), .val (.int p4), .val (.int v0), .val (.int s0), .val (.int s1), .unset] [(.ref b125), (.ref b125)])) t_
    refine XS.iconst X125.here hx rfl (hb hby at_41) ?_
    show Steps p.tables e below (T125.setTop (mkF m 42 #[.val (.int px), .val (.int py), .val (.int p2), .val (.int p3), .val (.int p4), .val (.int v0), .val (.int s0), .val (.int s1), .unset] [(.int (2 : Int32)), (.ref b125), (.ref b125)])) t_
    exact k_
  obtain ⟨_, _, ⟨T126, L126, k126, n126⟩, -, X126, ⟨Lc126, hQ126, l126, y126, z126⟩, st126⟩ := X125.specialBack hx (y := (⟨"com/example/bytewright/bytewright/classfile/Frame", "<init>", "(I)V"⟩ : MethodName)) rfl hown (mvT hZ (hw _ (List.mem_of_getElem? (i := 7) rfl))) (mvT hZ (hw _ (List.mem_of_getElem? (i := 8) rfl))) (mvT hZ (hw _ (List.mem_of_getElem? (i := 9) rfl))) (by decide) (backOf (W := 1) (rm2 l Z a0 hw [] b125 (2 : Int32) nv h125 n0 Z125 rfl A125 D_locals D_stack D_stackSize D_stackWords (S.ext E125) (An.ext E125) ga hnv) hZ (hw _ (List.mem_of_getElem? (i := 9) rfl)) (hw _ (List.mem_of_getElem? (i := 6) rfl)) (by decide) (by decide)) (g := (mkF m 42 #[.val (.int px), .val (.int py), .val (.int p2), .val (.int p3), .val (.int p4), .val (.int v0), .val (.int s0), .val (.int s1), .unset] [(.int (2 : Int32)), (.ref b125), (.ref b125)])) rfl (by rw [hml]; rfl) (Steps.refl _) (a := b125) (argsL := [(.int (2 : Int32))]) (rest := [(.ref b125)]) (lenOf pd4 rfl) rfl (by show 2 * 0 + _ ≤ _; exact Nat.le_of_eq rfl) (hb hby at_42) (fun _ _ => ⟨rfl, e125, (by decide : 1 + 1 ≤ _), (by decide : 5 + 2 ≤ _)⟩)
  dsimp only [Pt.U, Pt.locs, Pt.cells, Pt.slots] at X126 l126 y126 z126 st126 hQ126
  subst l126 y126 z126
  obtain ⟨rfl, N126q, la126, gl126, H126⟩ := hQ126
  have N126 := Fr.app N124 N126q
  refine Go.via (fun t_ k_ => st126.trans k_) ?_
  show Go p.tables e below _ (T126.setTop (mkF m 45 #[.val (.int px), .val (.int py), .val (.int p2), .val (.int p3), .val (.int p4), .val (.int v0), .val (.int s0), .val (.int s1), .unset] [(.ref b125)]))
  have Z126 := H126.ge ga
  refine Go.via (B := T126.setTop (mkF m 52 #[.val (.int px), .val (.int py), .val (.int p2), .val (.int p3), .val (.int p4), .val (.int v0), .val (.int s0), .val (.int s1), .val (.ref b125)] [(.int v0), (.int (0 : Int32)), (.ref b125)])) (fun t_ k_ => ?_) ?_
  · show Steps p.tables e below (T126.setTop (mkF m 45 #[.val (.int px), .val (.int py), .val (.int p2), .val (.int p3), .val (.int p4), .val (.int v0), .val (.int s0), .val (.int s1), .unset] [(.ref b125)])) t_
    refine XS.astore X126.here hx rfl (hb hby at_45) rfl rfl (l' := #[.val (.int px), .val (.int py), .val (.int p2), .val (.int p3), .val (.int p4), .val (.int v0), .val (.int s0), .val (.int s1), .val (.ref b125)]) rfl ?_
    show Steps p.tables e below (T126.setTop (mkF m 47 #[.val (.int px), .val (.int py), .val (.int p2), .val (.int p3), .val (.int p4), .val (.int v0), .val (.int s0), .val (.int s1), .val (.ref b125)] [])) t_
    refine XS.aload X126.here hx rfl (hb hby at_47) rfl rfl ?_
    show Steps p.tables e below (T126.setTop (mkF m 49 #[.val (.int px), .val (.int py), .val (.int p2), .val (.int p3), .val (.int p4), .val (.int v0), .val (.int s0), .val (.int s1), .val (.ref b125)] [(.ref b125)])) t_
    refine XS.iconst X126.here hx rfl (hb hby at_49) ?_
    show Steps p.tables e below (T126.setTop (mkF m 50 #[.val (.int px), .val (.int py), .val (.int p2), .val (.int p3), .val (.int p4), .val (.int v0), .val (.int s0), .val (.int s1), .val (.ref b125)] [(.int (0 : Int32)), (.ref b125)])) t_
    refine XS.iload X126.here hx rfl (hb hby at_50) rfl ?_
    show Steps p.tables e below (T126.setTop (mkF m 52 #[.val (.int px), .val (.int py), .val (.int p2), .val (.int p3), .val (.int p4), .val (.int v0), .val (.int s0), .val (.int s1), .val (.ref b125)] [(.int v0), (.int (0 : Int32)), (.ref b125)])) t_
    exact k_
  obtain ⟨cq127, kq127, q127a, q127b, q127c⟩ := isOf hZ rfl H126.1
  obtain ⟨_, _, ⟨T127, L127, k127, n127⟩, -, X127, ⟨Lc127, hQ127, l127, y127, z127⟩, st127⟩ := X126.virtualBack hx (y := (⟨"com/example/bytewright/bytewright/classfile/Frame", "setLocal", "(II)V"⟩ : MethodName)) (z := (⟨"com/example/bytewright/bytewright/classfile/Frame", "setLocal", "(II)V"⟩ : MethodName)) hown (mvT hZ (hw _ (List.mem_of_getElem? (i := 20) rfl))) (mvT hZ (hw _ (List.mem_of_getElem? (i := 21) rfl))) (notFace_of_selects (args := #[]) (mvT hZ (hw _ (List.mem_of_getElem? (i := 23) rfl)))) (mvT hZ (hw _ (List.mem_of_getElem? (i := 23) rfl))) (mvT hZ (hw _ (List.mem_of_getElem? (i := 22) rfl))) (by decide) (backOf (W := 0) (rm4 l Z a0 hw [] b125 (0 : Int32) v0 la126 (fun _ => 0) nv 0 (fun _ => 0) 0 0 T126.heap n0 Z126 rfl H126 ga gl126 rfl) hZ (hw _ (List.mem_of_getElem? (i := 24) rfl)) (hw _ (List.mem_of_getElem? (i := 6) rfl)) (by decide) (by decide)) q127a q127c (g := (mkF m 52 #[.val (.int px), .val (.int py), .val (.int p2), .val (.int p3), .val (.int p4), .val (.int v0), .val (.int s0), .val (.int s1), .val (.ref b125)] [(.int v0), (.int (0 : Int32)), (.ref b125)])) rfl (by rw [hml]; rfl) (Steps.refl _) (argsL := [(.int (0 : Int32)), (.int v0)]) (rest := []) (lenOf pd5 rfl) rfl (by show 2 * 0 + _ ≤ _; exact Nat.le_of_eq rfl) (hb hby at_52) (fun _ _ => ⟨rfl, rfl, (by decide : 2 + 0 ≤ _), (by decide : 7 + 0 ≤ _)⟩)
  dsimp only [Pt.U, Pt.locs, Pt.cells, Pt.slots] at X127 l127 y127 z127 st127 hQ127
  subst l127 y127 z127
  obtain ⟨rfl, N127q, lf127, H127, l0127, l1127⟩ := hQ127
  have N127 := Fr.app N126 N127q
  refine Go.via (fun t_ k_ => st127.trans k_) ?_
  show Go p.tables e below _ (T127.setTop (mkF m 55 #[.val (.int px), .val (.int py), .val (.int p2), .val (.int p3), .val (.int p4), .val (.int v0), .val (.int s0), .val (.int s1), .val (.ref b125)] []))
  have Z127 := H127.ge ga
  refine Go.via (B := T127.setTop (mkF m 59 #[.val (.int px), .val (.int py), .val (.int p2), .val (.int p3), .val (.int p4), .val (.int v0), .val (.int s0), .val (.int s1), .val (.ref b125)] [(.int s0), (.ref b125)])) (fun t_ k_ => ?_) ?_
  · show Steps p.tables e below (T127.setTop (mkF m 55 #[.val (.int px), .val (.int py), .val (.int p2), .val (.int p3), .val (.int p4), .val (.int v0), .val (.int s0), .val (.int s1), .val (.ref b125)] [])) t_
    refine XS.aload X127.here hx rfl (hb hby at_55) rfl rfl ?_
    show Steps p.tables e below (T127.setTop (mkF m 57 #[.val (.int px), .val (.int py), .val (.int p2), .val (.int p3), .val (.int p4), .val (.int v0), .val (.int s0), .val (.int s1), .val (.ref b125)] [(.ref b125)])) t_
    refine XS.iload X127.here hx rfl (hb hby at_57) rfl ?_
    show Steps p.tables e below (T127.setTop (mkF m 59 #[.val (.int px), .val (.int py), .val (.int p2), .val (.int p3), .val (.int p4), .val (.int v0), .val (.int s0), .val (.int s1), .val (.ref b125)] [(.int s0), (.ref b125)])) t_
    exact k_
  obtain ⟨cq128, kq128, q128a, q128b, q128c⟩ := isOf hZ rfl H127.1
  obtain ⟨_, _, ⟨T128, L128, k128, n128⟩, -, X128, ⟨Lc128, hQ128, l128, y128, z128⟩, st128⟩ := X127.virtualBack hx (y := (⟨"com/example/bytewright/bytewright/classfile/Frame", "push", "(I)V"⟩ : MethodName)) (z := (⟨"com/example/bytewright/bytewright/classfile/Frame", "push", "(I)V"⟩ : MethodName)) hown (mvT hZ (hw _ (List.mem_of_getElem? (i := 29) rfl))) (mvT hZ (hw _ (List.mem_of_getElem? (i := 30) rfl))) (notFace_of_selects (args := #[]) (mvT hZ (hw _ (List.mem_of_getElem? (i := 32) rfl)))) (mvT hZ (hw _ (List.mem_of_getElem? (i := 32) rfl))) (mvT hZ (hw _ (List.mem_of_getElem? (i := 31) rfl))) (by decide) (backOf (W := 0) (rm6a l Z a0 hw [] b125 s0 la126 lf127 nv 0 (fun _ => 0) 0 0 T127.heap n0 Z127 rfl rfl H127 ga gl126) hZ (hw _ (List.mem_of_getElem? (i := 33) rfl)) (hw _ (List.mem_of_getElem? (i := 6) rfl)) (by decide) (by decide)) q128a q128c (g := (mkF m 59 #[.val (.int px), .val (.int py), .val (.int p2), .val (.int p3), .val (.int p4), .val (.int v0), .val (.int s0), .val (.int s1), .val (.ref b125)] [(.int s0), (.ref b125)])) rfl (by rw [hml]; rfl) (Steps.refl _) (argsL := [(.int s0)]) (rest := []) (lenOf pd4 rfl) rfl (by show 2 * 0 + _ ≤ _; exact Nat.le_of_eq rfl) (hb hby at_59) (fun _ _ => ⟨rfl, rfl, (by decide : 2 + 1 ≤ _), (by decide : 7 + 4 ≤ _)⟩)
  dsimp only [Pt.U, Pt.locs, Pt.cells, Pt.slots] at X128 l128 y128 z128 st128 hQ128
  subst l128 y128 z128
  obtain ⟨rfl, N128q, sa128, sf128, sw128, gs128, H128, q0128⟩ := hQ128
  have N128 := Fr.app N127 N128q
  refine Go.via (fun t_ k_ => st128.trans k_) ?_
  show Go p.tables e below _ (T128.setTop (mkF m 62 #[.val (.int px), .val (.int py), .val (.int p2), .val (.int p3), .val (.int p4), .val (.int v0), .val (.int s0), .val (.int s1), .val (.ref b125)] []))
  have Z128 := H128.ge ga
  refine Go.via (B := T128.setTop (mkF m 66 #[.val (.int px), .val (.int py), .val (.int p2), .val (.int p3), .val (.int p4), .val (.int v0), .val (.int s0), .val (.int s1), .val (.ref b125)] [(.int s1), (.ref b125)])) (fun t_ k_ => ?_) ?_
  · show Steps p.tables e below (T128.setTop (mkF m 62 #[.val (.int px), .val (.int py), .val (.int p2), .val (.int p3), .val (.int p4), .val (.int v0), .val (.int s0), .val (.int s1), .val (.ref b125)] [])) t_
    refine XS.aload X128.here hx rfl (hb hby at_62) rfl rfl ?_
    show Steps p.tables e below (T128.setTop (mkF m 64 #[.val (.int px), .val (.int py), .val (.int p2), .val (.int p3), .val (.int p4), .val (.int v0), .val (.int s0), .val (.int s1), .val (.ref b125)] [(.ref b125)])) t_
    refine XS.iload X128.here hx rfl (hb hby at_64) rfl ?_
    show Steps p.tables e below (T128.setTop (mkF m 66 #[.val (.int px), .val (.int py), .val (.int p2), .val (.int p3), .val (.int p4), .val (.int v0), .val (.int s0), .val (.int s1), .val (.ref b125)] [(.int s1), (.ref b125)])) t_
    exact k_
  obtain ⟨cq129, kq129, q129a, q129b, q129c⟩ := isOf hZ rfl H128.1
  obtain ⟨_, _, ⟨T129, L129, k129, n129⟩, -, X129, ⟨Lc129, hQ129, l129, y129, z129⟩, st129⟩ := X128.virtualBack hx (y := (⟨"com/example/bytewright/bytewright/classfile/Frame", "push", "(I)V"⟩ : MethodName)) (z := (⟨"com/example/bytewright/bytewright/classfile/Frame", "push", "(I)V"⟩ : MethodName)) hown (mvT hZ (hw _ (List.mem_of_getElem? (i := 29) rfl))) (mvT hZ (hw _ (List.mem_of_getElem? (i := 30) rfl))) (notFace_of_selects (args := #[]) (mvT hZ (hw _ (List.mem_of_getElem? (i := 32) rfl)))) (mvT hZ (hw _ (List.mem_of_getElem? (i := 32) rfl))) (mvT hZ (hw _ (List.mem_of_getElem? (i := 31) rfl))) (by decide) (backOf (W := 0) (rm6b l Z a0 hw [] b125 s1 la126 lf127 sa128 4 sf128 1 sw128 T128.heap n0 Z128 rfl rfl H128 ga gl126 gs128) hZ (hw _ (List.mem_of_getElem? (i := 33) rfl)) (hw _ (List.mem_of_getElem? (i := 6) rfl)) (by decide) (by decide)) q129a q129c (g := (mkF m 66 #[.val (.int px), .val (.int py), .val (.int p2), .val (.int p3), .val (.int p4), .val (.int v0), .val (.int s0), .val (.int s1), .val (.ref b125)] [(.int s1), (.ref b125)])) rfl (by rw [hml]; rfl) (Steps.refl _) (argsL := [(.int s1)]) (rest := []) (lenOf pd4 rfl) rfl (by show 2 * 0 + _ ≤ _; exact Nat.le_of_eq rfl) (hb hby at_66) (fun _ _ => ⟨rfl, rfl, (by decide : 3 + 0 ≤ _), (by decide : 11 + 0 ≤ _)⟩)
  dsimp only [Pt.U, Pt.locs, Pt.cells, Pt.slots] at X129 l129 y129 z129 st129 hQ129
  subst l129 y129 z129
  obtain ⟨rfl, N129q, sf129, sw129, H129, q0129, q1129⟩ := hQ129
  have N129 := Fr.app N128 N129q
  refine Go.via (fun t_ k_ => st129.trans k_) ?_
  show Go p.tables e below _ (T129.setTop (mkF m 69 #[.val (.int px), .val (.int py), .val (.int p2), .val (.int p3), .val (.int p4), .val (.int v0), .val (.int s0), .val (.int s1), .val (.ref b125)] []))
  have Z129 := H129.ge ga
  refine Go.via (B := T129.setTop (mkF m 73 #[.val (.int px), .val (.int py), .val (.int p2), .val (.int p3), .val (.int p4), .val (.int v0), .val (.int s0), .val (.int s1), .val (.ref b125)] [(.int py), (.int px), (.ref b125)])) (fun t_ k_ => ?_) ?_
  · show Steps p.tables e below (T129.setTop (mkF m 69 #[.val (.int px), .val (.int py), .val (.int p2), .val (.int p3), .val (.int p4), .val (.int v0), .val (.int s0), .val (.int s1), .val (.ref b125)] [])) t_
    refine XS.aload X129.here hx rfl (hb hby at_69) rfl rfl ?_
    show Steps p.tables e below (T129.setTop (mkF m 71 #[.val (.int px), .val (.int py), .val (.int p2), .val (.int p3), .val (.int p4), .val (.int v0), .val (.int s0), .val (.int s1), .val (.ref b125)] [(.ref b125)])) t_
    refine XS.iloadN X129.here hx rfl (hb hby at_71) rfl ?_
    show Steps p.tables e below (T129.setTop (mkF m 72 #[.val (.int px), .val (.int py), .val (.int p2), .val (.int p3), .val (.int p4), .val (.int v0), .val (.int s0), .val (.int s1), .val (.ref b125)] [(.int px), (.ref b125)])) t_
    refine XS.iloadN X129.here hx rfl (hb hby at_72) rfl ?_
    show Steps p.tables e below (T129.setTop (mkF m 73 #[.val (.int px), .val (.int py), .val (.int p2), .val (.int p3), .val (.int p4), .val (.int v0), .val (.int s0), .val (.int s1), .val (.ref b125)] [(.int py), (.int px), (.ref b125)])) t_
    exact k_
  obtain ⟨cq130, kq130, q130a, q130b, q130c⟩ := isOf hZ rfl H129.1
  obtain ⟨_, _, ⟨T130, L130, k130, n130⟩, -, X130, ⟨Lc130, hQ130, l130, y130, z130⟩, st130⟩ := X129.virtualBack hx (y := (⟨"com/example/bytewright/bytewright/classfile/Frame", "replace", "(II)V"⟩ : MethodName)) (z := (⟨"com/example/bytewright/bytewright/classfile/Frame", "replace", "(II)V"⟩ : MethodName)) hown (mvT hZ (hw _ (List.mem_of_getElem? (i := 53) rfl))) (mvT hZ (hw _ (List.mem_of_getElem? (i := 54) rfl))) (notFace_of_selects (args := #[]) (mvT hZ (hw _ (List.mem_of_getElem? (i := 56) rfl)))) (mvT hZ (hw _ (List.mem_of_getElem? (i := 56) rfl))) (mvT hZ (hw _ (List.mem_of_getElem? (i := 55) rfl))) (by decide) (backOf (W := 0) (rm10 l Z a0 hw [] b125 px py la126 lf127 sa128 4 sf129 2 sw129 T129.heap n0 Z129 rfl rfl H129 ga gl126 gs128) hZ (hw _ (List.mem_of_getElem? (i := 57) rfl)) (hw _ (List.mem_of_getElem? (i := 6) rfl)) (by decide) (by decide)) q130a q130c (g := (mkF m 73 #[.val (.int px), .val (.int py), .val (.int p2), .val (.int p3), .val (.int p4), .val (.int v0), .val (.int s0), .val (.int s1), .val (.ref b125)] [(.int py), (.int px), (.ref b125)])) rfl (by rw [hml]; rfl) (Steps.refl _) (argsL := [(.int px), (.int py)]) (rest := []) (lenOf pd5 rfl) rfl (by show 2 * 0 + _ ≤ _; exact Nat.le_of_eq rfl) (hb hby at_73) (fun _ _ => ⟨rfl, rfl, (by decide : 3 + 0 ≤ _), (by decide : 11 + 0 ≤ _)⟩)
  dsimp only [Pt.U, Pt.locs, Pt.cells, Pt.slots] at X130 l130 y130 z130 st130 hQ130
  subst l130 y130 z130
  obtain ⟨rfl, N130q, lf130, sf130, H130, t0130, t1130, t2130, t3130⟩ := hQ130
  have N130 := Fr.app N129 N130q
  refine Go.via (fun t_ k_ => st130.trans k_) ?_
  show Go p.tables e below _ (T130.setTop (mkF m 76 #[.val (.int px), .val (.int py), .val (.int p2), .val (.int p3), .val (.int p4), .val (.int v0), .val (.int s0), .val (.int s1), .val (.ref b125)] []))
  have Z130 := H130.ge ga
  rw [l0127] at t0130
  rw [l1127] at t1130
  rw [q0129, q0128] at t2130
  rw [q1129] at t3130
  refine Go.via (B := T130.setTop (mkF m 79 #[.val (.int px), .val (.int py), .val (.int p2), .val (.int p3), .val (.int p4), .val (.int v0), .val (.int s0), .val (.int s1), .val (.ref b125)] [(.int (0 : Int32)), (.ref b125)])) (fun t_ k_ => ?_) ?_
  · show Steps p.tables e below (T130.setTop (mkF m 76 #[.val (.int px), .val (.int py), .val (.int p2), .val (.int p3), .val (.int p4), .val (.int v0), .val (.int s0), .val (.int s1), .val (.ref b125)] [])) t_
    refine XS.aload X130.here hx rfl (hb hby at_76) rfl rfl ?_
    show Steps p.tables e below (T130.setTop (mkF m 78 #[.val (.int px), .val (.int py), .val (.int p2), .val (.int p3), .val (.int p4), .val (.int v0), .val (.int s0), .val (.int s1), .val (.ref b125)] [(.ref b125)])) t_
    refine XS.iconst X130.here hx rfl (hb hby at_78) ?_
    show Steps p.tables e below (T130.setTop (mkF m 79 #[.val (.int px), .val (.int py), .val (.int p2), .val (.int p3), .val (.int p4), .val (.int v0), .val (.int s0), .val (.int s1), .val (.ref b125)] [(.int (0 : Int32)), (.ref b125)])) t_
    exact k_
  obtain ⟨cq131, kq131, q131a, q131b, q131c⟩ := isOf hZ rfl H130.1
  obtain ⟨_, _, ⟨T131, L131, k131, n131⟩, -, X131, ⟨Lc131, hQ131, l131, y131, z131⟩, st131⟩ := X130.virtualBack hx (y := (⟨"com/example/bytewright/bytewright/classfile/Frame", "local", "(I)I"⟩ : MethodName)) (z := (⟨"com/example/bytewright/bytewright/classfile/Frame", "local", "(I)I"⟩ : MethodName)) hown (mvT hZ (hw _ (List.mem_of_getElem? (i := 58) rfl))) (mvT hZ (hw _ (List.mem_of_getElem? (i := 59) rfl))) (notFace_of_selects (args := #[]) (mvT hZ (hw _ (List.mem_of_getElem? (i := 61) rfl)))) (mvT hZ (hw _ (List.mem_of_getElem? (i := 61) rfl))) (mvT hZ (hw _ (List.mem_of_getElem? (i := 60) rfl))) (by decide) (backOf (W := 0) (rm11 l Z a0 hw [] b125 (0 : Int32) la126 lf130 sa128 4 sf130 2 sw129 T130.heap n0 Z130 H130 (by decide) (by decide)) hZ (hw _ (List.mem_of_getElem? (i := 62) rfl)) (hw _ (List.mem_of_getElem? (i := 6) rfl)) (by decide) (by decide)) q131a q131c (g := (mkF m 79 #[.val (.int px), .val (.int py), .val (.int p2), .val (.int p3), .val (.int p4), .val (.int v0), .val (.int s0), .val (.int s1), .val (.ref b125)] [(.int (0 : Int32)), (.ref b125)])) rfl (by rw [hml]; rfl) (Steps.refl _) (argsL := [(.int (0 : Int32))]) (rest := []) (lenOf pd1 rfl) rfl (by show 2 * 0 + _ ≤ _; exact Nat.le_of_eq rfl) (hb hby at_79) (fun _ _ => ⟨rfl, rfl, (by decide : 3 + 0 ≤ _), (by decide : 11 + 0 ≤ _)⟩)
  dsimp only [Pt.U, Pt.locs, Pt.cells, Pt.slots] at X131 l131 y131 z131 st131 hQ131
  subst l131 y131 z131
  obtain ⟨rfl, N131q, e131⟩ := hQ131
  have N131 := Fr.app N130 N131q
  refine Go.via (fun t_ k_ => st131.trans k_) ?_
  show Go p.tables e below _ (T131.setTop (mkF m 82 #[.val (.int px), .val (.int py), .val (.int p2), .val (.int p3), .val (.int p4), .val (.int v0), .val (.int s0), .val (.int s1), .val (.ref b125)] [(.int (lf130 0))]))
  refine Go.via (B := T131.setTop (mkF m 86 #[.val (.int px), .val (.int py), .val (.int p2), .val (.int p3), .val (.int p4), .val (.int v0), .val (.int s0), .val (.int s1), .val (.ref b125)] [(.int py), (.int px), (.int v0), (.int (lf130 0))])) (fun t_ k_ => ?_) ?_
  · show Steps p.tables e below (T131.setTop (mkF m 82 #[.val (.int px), .val (.int py), .val (.int p2), .val (.int p3), .val (.int p4), .val (.int v0), .val (.int s0), .val (.int s1), .val (.ref b125)] [(.int (lf130 0))])) t_
    refine XS.iload X131.here hx rfl (hb hby at_82) rfl ?_
    show Steps p.tables e below (T131.setTop (mkF m 84 #[.val (.int px), .val (.int py), .val (.int p2), .val (.int p3), .val (.int p4), .val (.int v0), .val (.int s0), .val (.int s1), .val (.ref b125)] [(.int v0), (.int (lf130 0))])) t_
    refine XS.iloadN X131.here hx rfl (hb hby at_84) rfl ?_
    show Steps p.tables e below (T131.setTop (mkF m 85 #[.val (.int px), .val (.int py), .val (.int p2), .val (.int p3), .val (.int p4), .val (.int v0), .val (.int s0), .val (.int s1), .val (.ref b125)] [(.int px), (.int v0), (.int (lf130 0))])) t_
    refine XS.iloadN X131.here hx rfl (hb hby at_85) rfl ?_
    show Steps p.tables e below (T131.setTop (mkF m 86 #[.val (.int px), .val (.int py), .val (.int p2), .val (.int p3), .val (.int p4), .val (.int v0), .val (.int s0), .val (.int s1), .val (.ref b125)] [(.int py), (.int px), (.int v0), (.int (lf130 0))])) t_
    exact k_
  obtain ⟨_, _, ⟨T132, L132, k132, n132⟩, -, X132, ⟨Lc132, hQ132, l132, y132, z132⟩, st132⟩ := Jvm.LawKit.callS X131 hx (y := (⟨"com/example/bytewright/bytewright/classfile/FrameReplacePinLaw", "after", "(III)I"⟩ : MethodName)) hown (mvT hZ (hw _ (List.mem_of_getElem? (i := 63) rfl))) (mvT hZ (hw _ (List.mem_of_getElem? (i := 64) rfl))) (mvT hZ (hw _ (List.mem_of_getElem? (i := 2) rfl))) (mvT hZ (hw _ (List.mem_of_getElem? (i := 65) rfl))) (by decide) (backOf (W := 1) (rm12 l Z a0 hw [] v0 px py  T130.heap n0 Z130 ) hZ (hw _ (List.mem_of_getElem? (i := 65) rfl)) (hw _ (List.mem_of_getElem? (i := 2) rfl)) (by decide) (by decide)) (g := (mkF m 86 #[.val (.int px), .val (.int py), .val (.int p2), .val (.int p3), .val (.int p4), .val (.int v0), .val (.int s0), .val (.int s1), .val (.ref b125)] [(.int py), (.int px), (.int v0), (.int (lf130 0))])) rfl (by rw [hml]; rfl) (argsL := [(.int v0), (.int px), (.int py)]) (rest := [(.int (lf130 0))]) (lenOf pd6 rfl) rfl (by show 2 * 0 + _ ≤ _; exact Nat.le_of_eq rfl) (hb hby at_86) (fun _ _ => ⟨rfl, e131, (by decide : 3 + 0 ≤ _), (by decide : 11 + 0 ≤ _)⟩)
  dsimp only [Pt.U, Pt.locs, Pt.cells, Pt.slots] at X132 l132 y132 z132 st132 hQ132
  subst l132 y132 z132
  obtain ⟨rfl, N132q, e132⟩ := hQ132
  have N132 := Fr.app N131 N132q
  refine Go.via st132 ?_
  show Go p.tables e below _ (T132.setTop (mkF m 89 #[.val (.int px), .val (.int py), .val (.int p2), .val (.int p3), .val (.int p4), .val (.int v0), .val (.int s0), .val (.int s1), .val (.ref b125)] [(.int (F12_0 v0 px py)), (.int (lf130 0))]))
  refine Go.via (B := T132.setTop (mkF m 92 #[.val (.int px), .val (.int py), .val (.int p2), .val (.int p3), .val (.int p4), .val (.int v0), .val (.int s0), .val (.int s1), .val (.ref b125)] [])) (fun t_ k_ => XS.icmpNo X132.here hx rfl (hb hby at_89) rfl ((teq (t0130.trans (own_aft v0 px py).symm)).2) k_) ?_
  refine Go.via (B := T132.setTop (mkF m 95 #[.val (.int px), .val (.int py), .val (.int p2), .val (.int p3), .val (.int p4), .val (.int v0), .val (.int s0), .val (.int s1), .val (.ref b125)] [(.int (1 : Int32)), (.ref b125)])) (fun t_ k_ => ?_) ?_
  · show Steps p.tables e below (T132.setTop (mkF m 92 #[.val (.int px), .val (.int py), .val (.int p2), .val (.int p3), .val (.int p4), .val (.int v0), .val (.int s0), .val (.int s1), .val (.ref b125)] [])) t_
    refine XS.aload X132.here hx rfl (hb hby at_92) rfl rfl ?_
    show Steps p.tables e below (T132.setTop (mkF m 94 #[.val (.int px), .val (.int py), .val (.int p2), .val (.int p3), .val (.int p4), .val (.int v0), .val (.int s0), .val (.int s1), .val (.ref b125)] [(.ref b125)])) t_
    refine XS.iconst X132.here hx rfl (hb hby at_94) ?_
    show Steps p.tables e below (T132.setTop (mkF m 95 #[.val (.int px), .val (.int py), .val (.int p2), .val (.int p3), .val (.int p4), .val (.int v0), .val (.int s0), .val (.int s1), .val (.ref b125)] [(.int (1 : Int32)), (.ref b125)])) t_
    exact k_
  obtain ⟨cq133, kq133, q133a, q133b, q133c⟩ := isOf hZ e132 H130.1
  obtain ⟨_, _, ⟨T133, L133, k133, n133⟩, -, X133, ⟨Lc133, hQ133, l133, y133, z133⟩, st133⟩ := X132.virtualBack hx (y := (⟨"com/example/bytewright/bytewright/classfile/Frame", "local", "(I)I"⟩ : MethodName)) (z := (⟨"com/example/bytewright/bytewright/classfile/Frame", "local", "(I)I"⟩ : MethodName)) hown (mvT hZ (hw _ (List.mem_of_getElem? (i := 58) rfl))) (mvT hZ (hw _ (List.mem_of_getElem? (i := 59) rfl))) (notFace_of_selects (args := #[]) (mvT hZ (hw _ (List.mem_of_getElem? (i := 61) rfl)))) (mvT hZ (hw _ (List.mem_of_getElem? (i := 61) rfl))) (mvT hZ (hw _ (List.mem_of_getElem? (i := 60) rfl))) (by decide) (backOf (W := 0) (rm11 l Z a0 hw [] b125 (1 : Int32) la126 lf130 sa128 4 sf130 2 sw129 T130.heap n0 Z130 H130 (by decide) (by decide)) hZ (hw _ (List.mem_of_getElem? (i := 62) rfl)) (hw _ (List.mem_of_getElem? (i := 6) rfl)) (by decide) (by decide)) q133a q133c (g := (mkF m 95 #[.val (.int px), .val (.int py), .val (.int p2), .val (.int p3), .val (.int p4), .val (.int v0), .val (.int s0), .val (.int s1), .val (.ref b125)] [(.int (1 : Int32)), (.ref b125)])) rfl (by rw [hml]; rfl) (Steps.refl _) (argsL := [(.int (1 : Int32))]) (rest := []) (lenOf pd1 rfl) rfl (by show 2 * 0 + _ ≤ _; exact Nat.le_of_eq rfl) (hb hby at_95) (fun _ _ => ⟨rfl, e132, (by decide : 3 + 0 ≤ _), (by decide : 11 + 0 ≤ _)⟩)
  dsimp only [Pt.U, Pt.locs, Pt.cells, Pt.slots] at X133 l133 y133 z133 st133 hQ133
  subst l133 y133 z133
  obtain ⟨rfl, N133q, e133⟩ := hQ133
  have N133 := Fr.app N132 N133q
  refine Go.via (fun t_ k_ => st133.trans k_) ?_
  show Go p.tables e below _ (T133.setTop (mkF m 98 #[.val (.int px), .val (.int py), .val (.int p2), .val (.int p3), .val (.int p4), .val (.int v0), .val (.int s0), .val (.int s1), .val (.ref b125)] [(.int (lf130 1))]))
  refine Go.via (B := T133.setTop (mkF m 101 #[.val (.int px), .val (.int py), .val (.int p2), .val (.int p3), .val (.int p4), .val (.int v0), .val (.int s0), .val (.int s1), .val (.ref b125)] [(.int py), (.int px), (.int (0 : Int32)), (.int (lf130 1))])) (fun t_ k_ => ?_) ?_
  · show Steps p.tables e below (T133.setTop (mkF m 98 #[.val (.int px), .val (.int py), .val (.int p2), .val (.int p3), .val (.int p4), .val (.int v0), .val (.int s0), .val (.int s1), .val (.ref b125)] [(.int (lf130 1))])) t_
    refine XS.iconst X133.here hx rfl (hb hby at_98) ?_
    show Steps p.tables e below (T133.setTop (mkF m 99 #[.val (.int px), .val (.int py), .val (.int p2), .val (.int p3), .val (.int p4), .val (.int v0), .val (.int s0), .val (.int s1), .val (.ref b125)] [(.int (0 : Int32)), (.int (lf130 1))])) t_
    refine XS.iloadN X133.here hx rfl (hb hby at_99) rfl ?_
    show Steps p.tables e below (T133.setTop (mkF m 100 #[.val (.int px), .val (.int py), .val (.int p2), .val (.int p3), .val (.int p4), .val (.int v0), .val (.int s0), .val (.int s1), .val (.ref b125)] [(.int px), (.int (0 : Int32)), (.int (lf130 1))])) t_
    refine XS.iloadN X133.here hx rfl (hb hby at_100) rfl ?_
    show Steps p.tables e below (T133.setTop (mkF m 101 #[.val (.int px), .val (.int py), .val (.int p2), .val (.int p3), .val (.int p4), .val (.int v0), .val (.int s0), .val (.int s1), .val (.ref b125)] [(.int py), (.int px), (.int (0 : Int32)), (.int (lf130 1))])) t_
    exact k_
  obtain ⟨_, _, ⟨T134, L134, k134, n134⟩, -, X134, ⟨Lc134, hQ134, l134, y134, z134⟩, st134⟩ := Jvm.LawKit.callS X133 hx (y := (⟨"com/example/bytewright/bytewright/classfile/FrameReplacePinLaw", "after", "(III)I"⟩ : MethodName)) hown (mvT hZ (hw _ (List.mem_of_getElem? (i := 63) rfl))) (mvT hZ (hw _ (List.mem_of_getElem? (i := 64) rfl))) (mvT hZ (hw _ (List.mem_of_getElem? (i := 2) rfl))) (mvT hZ (hw _ (List.mem_of_getElem? (i := 65) rfl))) (by decide) (backOf (W := 1) (rm12 l Z a0 hw [] (0 : Int32) px py  T130.heap n0 Z130 ) hZ (hw _ (List.mem_of_getElem? (i := 65) rfl)) (hw _ (List.mem_of_getElem? (i := 2) rfl)) (by decide) (by decide)) (g := (mkF m 101 #[.val (.int px), .val (.int py), .val (.int p2), .val (.int p3), .val (.int p4), .val (.int v0), .val (.int s0), .val (.int s1), .val (.ref b125)] [(.int py), (.int px), (.int (0 : Int32)), (.int (lf130 1))])) rfl (by rw [hml]; rfl) (argsL := [(.int (0 : Int32)), (.int px), (.int py)]) (rest := [(.int (lf130 1))]) (lenOf pd6 rfl) rfl (by show 2 * 0 + _ ≤ _; exact Nat.le_of_eq rfl) (hb hby at_101) (fun _ _ => ⟨rfl, e133, (by decide : 3 + 0 ≤ _), (by decide : 11 + 0 ≤ _)⟩)
  dsimp only [Pt.U, Pt.locs, Pt.cells, Pt.slots] at X134 l134 y134 z134 st134 hQ134
  subst l134 y134 z134
  obtain ⟨rfl, N134q, e134⟩ := hQ134
  have N134 := Fr.app N133 N134q
  refine Go.via st134 ?_
  show Go p.tables e below _ (T134.setTop (mkF m 104 #[.val (.int px), .val (.int py), .val (.int p2), .val (.int p3), .val (.int p4), .val (.int v0), .val (.int s0), .val (.int s1), .val (.ref b125)] [(.int (F12_0 (0 : Int32) px py)), (.int (lf130 1))]))
  refine Go.via (B := T134.setTop (mkF m 107 #[.val (.int px), .val (.int py), .val (.int p2), .val (.int p3), .val (.int p4), .val (.int v0), .val (.int s0), .val (.int s1), .val (.ref b125)] [])) (fun t_ k_ => XS.icmpNo X134.here hx rfl (hb hby at_104) rfl ((teq (t1130.trans (own_aft 0 px py).symm)).2) k_) ?_
  refine Go.via (B := T134.setTop (mkF m 109 #[.val (.int px), .val (.int py), .val (.int p2), .val (.int p3), .val (.int p4), .val (.int v0), .val (.int s0), .val (.int s1), .val (.ref b125)] [(.ref b125)])) (fun t_ k_ => ?_) ?_
  · show Steps p.tables e below (T134.setTop (mkF m 107 #[.val (.int px), .val (.int py), .val (.int p2), .val (.int p3), .val (.int p4), .val (.int v0), .val (.int s0), .val (.int s1), .val (.ref b125)] [])) t_
    refine XS.aload X134.here hx rfl (hb hby at_107) rfl rfl ?_
    show Steps p.tables e below (T134.setTop (mkF m 109 #[.val (.int px), .val (.int py), .val (.int p2), .val (.int p3), .val (.int p4), .val (.int v0), .val (.int s0), .val (.int s1), .val (.ref b125)] [(.ref b125)])) t_
    exact k_
  obtain ⟨cq135, kq135, q135a, q135b, q135c⟩ := isOf hZ e134 H130.1
  obtain ⟨_, _, ⟨T135, L135, k135, n135⟩, -, X135, ⟨Lc135, hQ135, l135, y135, z135⟩, st135⟩ := X134.virtualBack hx (y := (⟨"com/example/bytewright/bytewright/classfile/Frame", "stackSize", "()I"⟩ : MethodName)) (z := (⟨"com/example/bytewright/bytewright/classfile/Frame", "stackSize", "()I"⟩ : MethodName)) hown (mvT hZ (hw _ (List.mem_of_getElem? (i := 66) rfl))) (mvT hZ (hw _ (List.mem_of_getElem? (i := 67) rfl))) (notFace_of_selects (args := #[]) (mvT hZ (hw _ (List.mem_of_getElem? (i := 69) rfl)))) (mvT hZ (hw _ (List.mem_of_getElem? (i := 69) rfl))) (mvT hZ (hw _ (List.mem_of_getElem? (i := 68) rfl))) (by decide) (backOf (W := 0) (rm13 l Z a0 hw [] b125 la126 lf130 sa128 4 sf130 2 sw129 T130.heap n0 Z130 H130) hZ (hw _ (List.mem_of_getElem? (i := 70) rfl)) (hw _ (List.mem_of_getElem? (i := 6) rfl)) (by decide) (by decide)) q135a q135c (g := (mkF m 109 #[.val (.int px), .val (.int py), .val (.int p2), .val (.int p3), .val (.int p4), .val (.int v0), .val (.int s0), .val (.int s1), .val (.ref b125)] [(.ref b125)])) rfl (by rw [hml]; rfl) (Steps.refl _) (argsL := []) (rest := []) (lenOf pd7 rfl) rfl (by show 2 * 0 + _ ≤ _; exact Nat.le_of_eq rfl) (hb hby at_109) (fun _ _ => ⟨rfl, e134, (by decide : 3 + 0 ≤ _), (by decide : 11 + 0 ≤ _)⟩)
  dsimp only [Pt.U, Pt.locs, Pt.cells, Pt.slots] at X135 l135 y135 z135 st135 hQ135
  subst l135 y135 z135
  obtain ⟨rfl, N135q, e135⟩ := hQ135
  have N135 := Fr.app N134 N135q
  refine Go.via (fun t_ k_ => st135.trans k_) ?_
  show Go p.tables e below _ (T135.setTop (mkF m 112 #[.val (.int px), .val (.int py), .val (.int p2), .val (.int p3), .val (.int p4), .val (.int v0), .val (.int s0), .val (.int s1), .val (.ref b125)] [(.int (2 : Int32))]))
  refine Go.via (B := T135.setTop (mkF m 113 #[.val (.int px), .val (.int py), .val (.int p2), .val (.int p3), .val (.int p4), .val (.int v0), .val (.int s0), .val (.int s1), .val (.ref b125)] [(.int (2 : Int32)), (.int (2 : Int32))])) (fun t_ k_ => ?_) ?_
  · show Steps p.tables e below (T135.setTop (mkF m 112 #[.val (.int px), .val (.int py), .val (.int p2), .val (.int p3), .val (.int p4), .val (.int v0), .val (.int s0), .val (.int s1), .val (.ref b125)] [(.int (2 : Int32))])) t_
    refine XS.iconst X135.here hx rfl (hb hby at_112) ?_
    show Steps p.tables e below (T135.setTop (mkF m 113 #[.val (.int px), .val (.int py), .val (.int p2), .val (.int p3), .val (.int p4), .val (.int v0), .val (.int s0), .val (.int s1), .val (.ref b125)] [(.int (2 : Int32)), (.int (2 : Int32))])) t_
    exact k_
  refine Go.via (B := T135.setTop (mkF m 116 #[.val (.int px), .val (.int py), .val (.int p2), .val (.int p3), .val (.int p4), .val (.int v0), .val (.int s0), .val (.int s1), .val (.ref b125)] [])) (fun t_ k_ => XS.icmpNo X135.here hx rfl (hb hby at_113) rfl ((teq (rfl : (2 : Int32) = (2 : Int32))).2) k_) ?_
  refine Go.via (B := T135.setTop (mkF m 119 #[.val (.int px), .val (.int py), .val (.int p2), .val (.int p3), .val (.int p4), .val (.int v0), .val (.int s0), .val (.int s1), .val (.ref b125)] [(.int (0 : Int32)), (.ref b125)])) (fun t_ k_ => ?_) ?_
  · show Steps p.tables e below (T135.setTop (mkF m 116 #[.val (.int px), .val (.int py), .val (.int p2), .val (.int p3), .val (.int p4), .val (.int v0), .val (.int s0), .val (.int s1), .val (.ref b125)] [])) t_
    refine XS.aload X135.here hx rfl (hb hby at_116) rfl rfl ?_
    show Steps p.tables e below (T135.setTop (mkF m 118 #[.val (.int px), .val (.int py), .val (.int p2), .val (.int p3), .val (.int p4), .val (.int v0), .val (.int s0), .val (.int s1), .val (.ref b125)] [(.ref b125)])) t_
    refine XS.iconst X135.here hx rfl (hb hby at_118) ?_
    show Steps p.tables e below (T135.setTop (mkF m 119 #[.val (.int px), .val (.int py), .val (.int p2), .val (.int p3), .val (.int p4), .val (.int v0), .val (.int s0), .val (.int s1), .val (.ref b125)] [(.int (0 : Int32)), (.ref b125)])) t_
    exact k_
  obtain ⟨cq136, kq136, q136a, q136b, q136c⟩ := isOf hZ e135 H130.1
  obtain ⟨_, _, ⟨T136, L136, k136, n136⟩, -, X136, ⟨Lc136, hQ136, l136, y136, z136⟩, st136⟩ := X135.virtualBack hx (y := (⟨"com/example/bytewright/bytewright/classfile/Frame", "stackValue", "(I)I"⟩ : MethodName)) (z := (⟨"com/example/bytewright/bytewright/classfile/Frame", "stackValue", "(I)I"⟩ : MethodName)) hown (mvT hZ (hw _ (List.mem_of_getElem? (i := 71) rfl))) (mvT hZ (hw _ (List.mem_of_getElem? (i := 72) rfl))) (notFace_of_selects (args := #[]) (mvT hZ (hw _ (List.mem_of_getElem? (i := 74) rfl)))) (mvT hZ (hw _ (List.mem_of_getElem? (i := 74) rfl))) (mvT hZ (hw _ (List.mem_of_getElem? (i := 73) rfl))) (by decide) (backOf (W := 0) (rm14 l Z a0 hw [] b125 (0 : Int32) la126 lf130 sa128 4 sf130 2 sw129 T130.heap n0 Z130 H130 (by decide) (by decide)) hZ (hw _ (List.mem_of_getElem? (i := 75) rfl)) (hw _ (List.mem_of_getElem? (i := 6) rfl)) (by decide) (by decide)) q136a q136c (g := (mkF m 119 #[.val (.int px), .val (.int py), .val (.int p2), .val (.int p3), .val (.int p4), .val (.int v0), .val (.int s0), .val (.int s1), .val (.ref b125)] [(.int (0 : Int32)), (.ref b125)])) rfl (by rw [hml]; rfl) (Steps.refl _) (argsL := [(.int (0 : Int32))]) (rest := []) (lenOf pd1 rfl) rfl (by show 2 * 0 + _ ≤ _; exact Nat.le_of_eq rfl) (hb hby at_119) (fun _ _ => ⟨rfl, e135, (by decide : 3 + 0 ≤ _), (by decide : 11 + 0 ≤ _)⟩)
  dsimp only [Pt.U, Pt.locs, Pt.cells, Pt.slots] at X136 l136 y136 z136 st136 hQ136
  subst l136 y136 z136
  obtain ⟨rfl, N136q, e136⟩ := hQ136
  have N136 := Fr.app N135 N136q
  refine Go.via (fun t_ k_ => st136.trans k_) ?_
  show Go p.tables e below _ (T136.setTop (mkF m 122 #[.val (.int px), .val (.int py), .val (.int p2), .val (.int p3), .val (.int p4), .val (.int v0), .val (.int s0), .val (.int s1), .val (.ref b125)] [(.int (sf130 0))]))
  refine Go.via (B := T136.setTop (mkF m 126 #[.val (.int px), .val (.int py), .val (.int p2), .val (.int p3), .val (.int p4), .val (.int v0), .val (.int s0), .val (.int s1), .val (.ref b125)] [(.int py), (.int px), (.int s0), (.int (sf130 0))])) (fun t_ k_ => ?_) ?_
  · show Steps p.tables e below (T136.setTop (mkF m 122 #[.val (.int px), .val (.int py), .val (.int p2), .val (.int p3), .val (.int p4), .val (.int v0), .val (.int s0), .val (.int s1), .val (.ref b125)] [(.int (sf130 0))])) t_
    refine XS.iload X136.here hx rfl (hb hby at_122) rfl ?_
    show Steps p.tables e below (T136.setTop (mkF m 124 #[.val (.int px), .val (.int py), .val (.int p2), .val (.int p3), .val (.int p4), .val (.int v0), .val (.int s0), .val (.int s1), .val (.ref b125)] [(.int s0), (.int (sf130 0))])) t_
    refine XS.iloadN X136.here hx rfl (hb hby at_124) rfl ?_
    show Steps p.tables e below (T136.setTop (mkF m 125 #[.val (.int px), .val (.int py), .val (.int p2), .val (.int p3), .val (.int p4), .val (.int v0), .val (.int s0), .val (.int s1), .val (.ref b125)] [(.int px), (.int s0), (.int (sf130 0))])) t_
    refine XS.iloadN X136.here hx rfl (hb hby at_125) rfl ?_
    show Steps p.tables e below (T136.setTop (mkF m 126 #[.val (.int px), .val (.int py), .val (.int p2), .val (.int p3), .val (.int p4), .val (.int v0), .val (.int s0), .val (.int s1), .val (.ref b125)] [(.int py), (.int px), (.int s0), (.int (sf130 0))])) t_
    exact k_
  obtain ⟨_, _, ⟨T137, L137, k137, n137⟩, -, X137, ⟨Lc137, hQ137, l137, y137, z137⟩, st137⟩ := Jvm.LawKit.callS X136 hx (y := (⟨"com/example/bytewright/bytewright/classfile/FrameReplacePinLaw", "after", "(III)I"⟩ : MethodName)) hown (mvT hZ (hw _ (List.mem_of_getElem? (i := 63) rfl))) (mvT hZ (hw _ (List.mem_of_getElem? (i := 64) rfl))) (mvT hZ (hw _ (List.mem_of_getElem? (i := 2) rfl))) (mvT hZ (hw _ (List.mem_of_getElem? (i := 65) rfl))) (by decide) (backOf (W := 1) (rm12 l Z a0 hw [] s0 px py  T130.heap n0 Z130 ) hZ (hw _ (List.mem_of_getElem? (i := 65) rfl)) (hw _ (List.mem_of_getElem? (i := 2) rfl)) (by decide) (by decide)) (g := (mkF m 126 #[.val (.int px), .val (.int py), .val (.int p2), .val (.int p3), .val (.int p4), .val (.int v0), .val (.int s0), .val (.int s1), .val (.ref b125)] [(.int py), (.int px), (.int s0), (.int (sf130 0))])) rfl (by rw [hml]; rfl) (argsL := [(.int s0), (.int px), (.int py)]) (rest := [(.int (sf130 0))]) (lenOf pd6 rfl) rfl (by show 2 * 0 + _ ≤ _; exact Nat.le_of_eq rfl) (hb hby at_126) (fun _ _ => ⟨rfl, e136, (by decide : 3 + 0 ≤ _), (by decide : 11 + 0 ≤ _)⟩)
  dsimp only [Pt.U, Pt.locs, Pt.cells, Pt.slots] at X137 l137 y137 z137 st137 hQ137
  subst l137 y137 z137
  obtain ⟨rfl, N137q, e137⟩ := hQ137
  have N137 := Fr.app N136 N137q
  refine Go.via st137 ?_
  show Go p.tables e below _ (T137.setTop (mkF m 129 #[.val (.int px), .val (.int py), .val (.int p2), .val (.int p3), .val (.int p4), .val (.int v0), .val (.int s0), .val (.int s1), .val (.ref b125)] [(.int (F12_0 s0 px py)), (.int (sf130 0))]))
  refine Go.via (B := T137.setTop (mkF m 132 #[.val (.int px), .val (.int py), .val (.int p2), .val (.int p3), .val (.int p4), .val (.int v0), .val (.int s0), .val (.int s1), .val (.ref b125)] [])) (fun t_ k_ => XS.icmpNo X137.here hx rfl (hb hby at_129) rfl ((teq (t2130.trans (own_aft s0 px py).symm)).2) k_) ?_
  refine Go.via (B := T137.setTop (mkF m 135 #[.val (.int px), .val (.int py), .val (.int p2), .val (.int p3), .val (.int p4), .val (.int v0), .val (.int s0), .val (.int s1), .val (.ref b125)] [(.int (1 : Int32)), (.ref b125)])) (fun t_ k_ => ?_) ?_
  · show Steps p.tables e below (T137.setTop (mkF m 132 #[.val (.int px), .val (.int py), .val (.int p2), .val (.int p3), .val (.int p4), .val (.int v0), .val (.int s0), .val (.int s1), .val (.ref b125)] [])) t_
    refine XS.aload X137.here hx rfl (hb hby at_132) rfl rfl ?_
    show Steps p.tables e below (T137.setTop (mkF m 134 #[.val (.int px), .val (.int py), .val (.int p2), .val (.int p3), .val (.int p4), .val (.int v0), .val (.int s0), .val (.int s1), .val (.ref b125)] [(.ref b125)])) t_
    refine XS.iconst X137.here hx rfl (hb hby at_134) ?_
    show Steps p.tables e below (T137.setTop (mkF m 135 #[.val (.int px), .val (.int py), .val (.int p2), .val (.int p3), .val (.int p4), .val (.int v0), .val (.int s0), .val (.int s1), .val (.ref b125)] [(.int (1 : Int32)), (.ref b125)])) t_
    exact k_
  obtain ⟨cq138, kq138, q138a, q138b, q138c⟩ := isOf hZ e137 H130.1
  obtain ⟨_, _, ⟨T138, L138, k138, n138⟩, -, X138, ⟨Lc138, hQ138, l138, y138, z138⟩, st138⟩ := X137.virtualBack hx (y := (⟨"com/example/bytewright/bytewright/classfile/Frame", "stackValue", "(I)I"⟩ : MethodName)) (z := (⟨"com/example/bytewright/bytewright/classfile/Frame", "stackValue", "(I)I"⟩ : MethodName)) hown (mvT hZ (hw _ (List.mem_of_getElem? (i := 71) rfl))) (mvT hZ (hw _ (List.mem_of_getElem? (i := 72) rfl))) (notFace_of_selects (args := #[]) (mvT hZ (hw _ (List.mem_of_getElem? (i := 74) rfl)))) (mvT hZ (hw _ (List.mem_of_getElem? (i := 74) rfl))) (mvT hZ (hw _ (List.mem_of_getElem? (i := 73) rfl))) (by decide) (backOf (W := 0) (rm14 l Z a0 hw [] b125 (1 : Int32) la126 lf130 sa128 4 sf130 2 sw129 T130.heap n0 Z130 H130 (by decide) (by decide)) hZ (hw _ (List.mem_of_getElem? (i := 75) rfl)) (hw _ (List.mem_of_getElem? (i := 6) rfl)) (by decide) (by decide)) q138a q138c (g := (mkF m 135 #[.val (.int px), .val (.int py), .val (.int p2), .val (.int p3), .val (.int p4), .val (.int v0), .val (.int s0), .val (.int s1), .val (.ref b125)] [(.int (1 : Int32)), (.ref b125)])) rfl (by rw [hml]; rfl) (Steps.refl _) (argsL := [(.int (1 : Int32))]) (rest := []) (lenOf pd1 rfl) rfl (by show 2 * 0 + _ ≤ _; exact Nat.le_of_eq rfl) (hb hby at_135) (fun _ _ => ⟨rfl, e137, (by decide : 3 + 0 ≤ _), (by decide : 11 + 0 ≤ _)⟩)
  dsimp only [Pt.U, Pt.locs, Pt.cells, Pt.slots] at X138 l138 y138 z138 st138 hQ138
  subst l138 y138 z138
  obtain ⟨rfl, N138q, e138⟩ := hQ138
  have N138 := Fr.app N137 N138q
  refine Go.via (fun t_ k_ => st138.trans k_) ?_
  show Go p.tables e below _ (T138.setTop (mkF m 138 #[.val (.int px), .val (.int py), .val (.int p2), .val (.int p3), .val (.int p4), .val (.int v0), .val (.int s0), .val (.int s1), .val (.ref b125)] [(.int (sf130 1))]))
  refine Go.via (B := T138.setTop (mkF m 142 #[.val (.int px), .val (.int py), .val (.int p2), .val (.int p3), .val (.int p4), .val (.int v0), .val (.int s0), .val (.int s1), .val (.ref b125)] [(.int py), (.int px), (.int s1), (.int (sf130 1))])) (fun t_ k_ => ?_) ?_
  · show Steps p.tables e below (T138.setTop (mkF m 138 #[.val (.int px), .val (.int py), .val (.int p2), .val (.int p3), .val (.int p4), .val (.int v0), .val (.int s0), .val (.int s1), .val (.ref b125)] [(.int (sf130 1))])) t_
    refine XS.iload X138.here hx rfl (hb hby at_138) rfl ?_
    show Steps p.tables e below (T138.setTop (mkF m 140 #[.val (.int px), .val (.int py), .val (.int p2), .val (.int p3), .val (.int p4), .val (.int v0), .val (.int s0), .val (.int s1), .val (.ref b125)] [(.int s1), (.int (sf130 1))])) t_
    refine XS.iloadN X138.here hx rfl (hb hby at_140) rfl ?_
    show Steps p.tables e below (T138.setTop (mkF m 141 #[.val (.int px), .val (.int py), .val (.int p2), .val (.int p3), .val (.int p4), .val (.int v0), .val (.int s0), .val (.int s1), .val (.ref b125)] [(.int px), (.int s1), (.int (sf130 1))])) t_
    refine XS.iloadN X138.here hx rfl (hb hby at_141) rfl ?_
    show Steps p.tables e below (T138.setTop (mkF m 142 #[.val (.int px), .val (.int py), .val (.int p2), .val (.int p3), .val (.int p4), .val (.int v0), .val (.int s0), .val (.int s1), .val (.ref b125)] [(.int py), (.int px), (.int s1), (.int (sf130 1))])) t_
    exact k_
  obtain ⟨_, _, ⟨T139, L139, k139, n139⟩, -, X139, ⟨Lc139, hQ139, l139, y139, z139⟩, st139⟩ := Jvm.LawKit.callS X138 hx (y := (⟨"com/example/bytewright/bytewright/classfile/FrameReplacePinLaw", "after", "(III)I"⟩ : MethodName)) hown (mvT hZ (hw _ (List.mem_of_getElem? (i := 63) rfl))) (mvT hZ (hw _ (List.mem_of_getElem? (i := 64) rfl))) (mvT hZ (hw _ (List.mem_of_getElem? (i := 2) rfl))) (mvT hZ (hw _ (List.mem_of_getElem? (i := 65) rfl))) (by decide) (backOf (W := 1) (rm12 l Z a0 hw [] s1 px py  T130.heap n0 Z130 ) hZ (hw _ (List.mem_of_getElem? (i := 65) rfl)) (hw _ (List.mem_of_getElem? (i := 2) rfl)) (by decide) (by decide)) (g := (mkF m 142 #[.val (.int px), .val (.int py), .val (.int p2), .val (.int p3), .val (.int p4), .val (.int v0), .val (.int s0), .val (.int s1), .val (.ref b125)] [(.int py), (.int px), (.int s1), (.int (sf130 1))])) rfl (by rw [hml]; rfl) (argsL := [(.int s1), (.int px), (.int py)]) (rest := [(.int (sf130 1))]) (lenOf pd6 rfl) rfl (by show 2 * 0 + _ ≤ _; exact Nat.le_of_eq rfl) (hb hby at_142) (fun _ _ => ⟨rfl, e138, (by decide : 3 + 0 ≤ _), (by decide : 11 + 0 ≤ _)⟩)
  dsimp only [Pt.U, Pt.locs, Pt.cells, Pt.slots] at X139 l139 y139 z139 st139 hQ139
  subst l139 y139 z139
  obtain ⟨rfl, N139q, e139⟩ := hQ139
  have N139 := Fr.app N138 N139q
  refine Go.via st139 ?_
  show Go p.tables e below _ (T139.setTop (mkF m 145 #[.val (.int px), .val (.int py), .val (.int p2), .val (.int p3), .val (.int p4), .val (.int v0), .val (.int s0), .val (.int s1), .val (.ref b125)] [(.int (F12_0 s1 px py)), (.int (sf130 1))]))
  refine Go.via (B := T139.setTop (mkF m 148 #[.val (.int px), .val (.int py), .val (.int p2), .val (.int p3), .val (.int p4), .val (.int v0), .val (.int s0), .val (.int s1), .val (.ref b125)] [])) (fun t_ k_ => XS.icmpNo X139.here hx rfl (hb hby at_145) rfl ((teq (t3130.trans (own_aft s1 px py).symm)).2) k_) ?_
  refine Go.via (B := T139.setTop (mkF m 153 #[.val (.int px), .val (.int py), .val (.int p2), .val (.int p3), .val (.int p4), .val (.int v0), .val (.int s0), .val (.int s1), .val (.ref b125)] [(.int (1 : Int32))])) (fun t_ k_ => ?_) ?_
  · show Steps p.tables e below (T139.setTop (mkF m 148 #[.val (.int px), .val (.int py), .val (.int p2), .val (.int p3), .val (.int p4), .val (.int v0), .val (.int s0), .val (.int s1), .val (.ref b125)] [])) t_
    refine XS.iconst X139.here hx rfl (hb hby at_148) ?_
    show Steps p.tables e below (T139.setTop (mkF m 149 #[.val (.int px), .val (.int py), .val (.int p2), .val (.int p3), .val (.int p4), .val (.int v0), .val (.int s0), .val (.int s1), .val (.ref b125)] [(.int (1 : Int32))])) t_
    refine XS.goto X139.here hx rfl (pc0 := 149) (pc' := 153) rfl (hb hby at_149) (by decide) (by decide) ?_
    show Steps p.tables e below (T139.setTop (mkF m 153 #[.val (.int px), .val (.int py), .val (.int p2), .val (.int p3), .val (.int p4), .val (.int v0), .val (.int s0), .val (.int s1), .val (.ref b125)] [(.int (1 : Int32))])) t_
    exact k_
  exact Go.leave X139 hlk (v := (some (.int (1 : Int32)))) (fun h => by rw [hrt] at h; cases h) (fun fs hr => retN X139 hx (t := .boolean) hrt (by simp) (hb hby at_153) hr) (by decide) (by decide) (⟨rfl, N139⟩)
set_option maxRecDepth 65536 in
set_option maxHeartbeats 40000000 in
theorem comes_1 {Post : Tables → Env → Array Value → State → Outcome → State → Prop} (hpost : ∀ tb e args s v u, (limb_1_1.after args s (.returned v) u = true ∧ limb_1_2.after args s (.returned v) u = true ∧ True) → FrameEnd s (.returned v) u (Jvm.fieldLocs frame_1_writes args s ++ Jvm.arrayLocs frame_1_arrays args s ++ Jvm.staticLocs frame_1_statics s) 16 128 → Post tb e args s (.returned v) u) :
    ArmFor flags0 classFile x code maxLocals ret World_1 tables_1 room_1 Calls_1 rest_1 Pre_1 Post := by
  intro l hfl _ _ p e ha hc hk s m args below hf hA hF happ hP
  obtain ⟨hcalls, hrest, hpre⟩ := hP
  obtain ⟨-, -, -, hnamed, -, -, -, hat⟩ := (Spec.applies_iff hf).mp happ
  obtain ⟨hg, hn⟩ := and_e (Cond.before_iff.mp (show (Jvm.Cond.and given_1 narrow_1).before args s = true from hpre))
  obtain ⟨hcount, hg0⟩ := and_e hg
  obtain ⟨ha0, hg1⟩ := and_e hg0
  obtain ⟨ha1, hg2⟩ := and_e hg1
  obtain ⟨ha2, hg3⟩ := and_e hg2
  obtain ⟨ha3, hg4⟩ := and_e hg3
  have ha4 := hg4
  obtain ⟨w0, w1, w2, w3, w4, rfl⟩ : ∃ w0 w1 w2 w3 w4 : Value, args = #[w0, w1, w2, w3, w4] := by
    have hs : args.size = 5 := by simpa [Cond.value, given_1] using hcount
    obtain ⟨L⟩ := args
    match L, hs with
    | [w0, w1, w2, w3, w4], _ => exact ⟨w0, w1, w2, w3, w4, rfl⟩
  have hw := fun d (hd : d ∈ tables_1) => atoms_spec (ws := Jvm.Cond.code x code maxLocals ret :: tables_1) hat d (List.mem_cons_of_mem _ hd)
  have hfit : Fit s := fun {y c} hc i hi => by
    obtain ⟨ha, rfl⟩ := Array.getElem?_eq_some_iff.mp hc
    have q := List.all_eq_true.mp ((Array.all_eq_true_iff_forall_mem.mp hF) _ (Array.getElem_mem ha)) i (List.mem_range.mpr hi)
    simpa [Array.getElem?_eq_getElem hi] using q
  obtain ⟨i0, ei0⟩ := is_v ha0
  obtain rfl : w0 = (.int i0) := Option.some.inj ei0
  obtain ⟨i1, ei1⟩ := is_v ha1
  obtain rfl : w1 = (.int i1) := Option.some.inj ei1
  obtain ⟨i2, ei2⟩ := is_v ha2
  obtain rfl : w2 = (.int i2) := Option.some.inj ei2
  obtain ⟨i3, ei3⟩ := is_v ha3
  obtain rfl : w3 = (.int i3) := Option.some.inj ei3
  obtain ⟨i4, ei4⟩ := is_v ha4
  obtain rfl : w4 = (.int i4) := Option.some.inj ei4
  obtain ⟨xa, r0⟩ := and_e hn
  obtain ⟨xe, xl⟩ := and_e r0
  obtain ⟨nv, ev⟩ := arr_v xa
  obtain ⟨cl, Ar⟩ := Arr.start ev xa
  have S := Sta.start ev (Or.inr ⟨(hw _ (List.mem_of_getElem? (i := 6) rfl)), (hw _ (List.mem_of_getElem? (i := 17) rfl))⟩)
  have An : Ary s s.heap nv .int 0 (fun _ => 0) := by
    obtain ⟨x, y, hx, hy, -, k2⟩ := cmp_v (Or.inl xl)
    cases (Term.int_eval (0 : Int32)).symm.trans hy
    obtain ⟨z, rfl⟩ := k2
    have hz : z = 0 := gotT (by simp [Cond.value, hx, Term.int_eval]) xl
    subst hz
    have harr : s.arrayAt? nv = some cl := Arr.fin (Vm.Alike.refl _) Ar
    have e3 : cl.slots.size < 2 ^ 31 := by
      apply Classical.byContradiction
      intro hcon
      simp [Term.eval, harr] at hx ev
      simp [ev, harr, hcon] at hx
    have h0 : cl.slots.size.toInt32 = 0 := by
      have q := (len_f ev harr e3).symm.trans hx
      exact Value.int.inj (Option.some.inj q)
    have h1 : cl.slots.size = 0 := by
      have q := len_toInt e3
      rw [h0] at q
      have u : (0 : Int32).toInt = 0 := rfl
      omega
    exact ⟨cl, Ar, h1, by decide, fun i hi => absurd hi (Nat.not_lt_zero i)⟩
  obtain ⟨n, o, h1, h2, h3, _, L, rfl, ⟨rfl, N⟩, hq⟩ := rm0 l s _ hw tables_1 i0 i1 i2 i3 i4 nv s.heap s.heap.size (Nat.le_refl _) S An An.lt p e ha hc hk s m _ below hf ((Spec.applies_iff_loose hf).mp happ).1 ⟨rfl, State.Warmed39.refl s, rfl⟩ trivial
  refine ⟨n, _, h1, h2, h3, hpost _ _ _ _ _ _ ⟨Cond.after_iff.mpr rfl, Cond.after_iff.mpr (eq_i res_at (Term.int_eval (1)) rfl), trivial⟩ ⟨hq.1, hq.2.1, (hq.2.2.sift fun y hy => Or.inr (N y hy)).mono (by decide) (by decide)⟩⟩
theorem main_1_1 : Claimed_1_1 := comes_1 fun _ _ _ _ _ _ h hF => ⟨h.1, hF⟩
theorem main_1_2 : Claimed_1_2 := comes_1 fun _ _ _ _ _ _ h hF => ⟨h.2.1, hF⟩
end Jvm.Pilot.@@N@@
namespace Jvm.Pilot.@@N@@
open Jvm Jvm.ClassFile Sem Op Lib Jvm.Free Jvm.Stand Jvm.Pilot.@@N@@.Jvm.D
/-! MADE BY PROGRAM (witnessworld.py) out of the Statement's table words and the real class files: 13 classes; the members and pool entries that the words name. The judged class is class 1, her method 3. -/
namespace start1
open Jvm.ClassFile
def u (s : String) : CpInfo := .utf8 (stringToUtf16 s)
/-- a pool by its gaps: so many unusable entries, then the entry; so many at the end -/
def gap : Nat → List CpInfo → List CpInfo
  | 0, r => r
  | n + 1, r => .unusable :: gap n r
def poolList (es : List (Nat × CpInfo)) (last : Nat) : List CpInfo := es.foldr (fun e r => gap e.1 (e.2 :: r)) (gap last [])
def pool (es : List (Nat × CpInfo)) (last : Nat) : Array CpInfo := ⟨poolList es last⟩
def fileOf (pool : Array CpInfo) (this : Nat) (attrs : Array Attribute := #[]) (ms : Array MethodInfo := #[]) (fl : Nat := 33) (sup : Nat := 0) (ifs : Array Nat := #[]) (fds : Array FieldInfo := #[]) : ClassFile where
  minorVersion := 0
  majorVersion := 65
  constantPool := pool
  accessFlags := fl
  thisClass := this
  superClass := sup
  interfaces := ifs
  fields := fds
  methods := ms
  attributes := attrs
def plain (name : String) (sup : Option ClassId) : Class where
  name := name
  kind := .ordinary
  loader := none
  accessFlags := 33
  super := sup
  interfaces := #[]
  cf := none
  fields := #[]
  methods := #[]
  instanceTypes := #[]
  staticTypes := #[]
  resolved := #[]
  callSites := []
  init := .initialized
  statics := none
  mirror := none

def pool0 : Array CpInfo := pool [(5, u "<init>"), (0, u "()V"), (1, .class_ 10), (1, u "java/lang/Object")] 113

def k0c0 : Code := { maxStack := 0, maxLocals := 1, code := object_method_1_code, exceptionTable := #[], attributes := #[] }
def k0m0 : Method := { name := "<init>", desc := "()V", sig := { parameters := [], returnType := none }, accessFlags := 1, code := some k0c0 }
/-- java/lang/Object -/
def k0 : Class := { plain "java/lang/Object" none with
  accessFlags := 33
  interfaces := #[]
  cf := some (fileOf pool0 8 #[] #[{ accessFlags := 1, nameIndex := 5, descriptorIndex := 6, attributes := #[] }] 33 0 #[] #[])
  fields := #[]
  methods := #[k0m0]
  instanceTypes := #[]
  staticTypes := #[]
  resolved := Array.replicate 124 none
  statics := none }

def pool1 : Array CpInfo := pool [(2, .class_ 4), (1, u "java/lang/Object"), (0, u "<init>"), (0, u "()V"), (0, .methodref 8 9), (0, .class_ 10), (0, .nameAndType 11 12), (0, u "com/example/bytewright/bytewright/classfile/FrameReplacePinLaw"), (0, u "pick"), (0, u "(IIIII)I"), (0, .class_ 14), (0, u "com/example/bytewright/bytewright/classfile/Frame"), (0, .methodref 13 16), (0, .nameAndType 5 17), (0, u "(I)V"), (0, .methodref 13 19), (0, .nameAndType 20 21), (0, u "setLocal"), (0, u "(II)V"), (0, .methodref 13 23), (0, .nameAndType 24 17), (0, u "push"), (0, .methodref 13 26), (0, .nameAndType 27 21), (0, u "replace"), (0, .methodref 13 29), (0, .nameAndType 30 31), (0, u "local"), (0, u "(I)I"), (0, .methodref 8 33), (0, .nameAndType 34 35), (0, u "after"), (0, u "(III)I"), (2, .methodref 13 39), (0, .nameAndType 40 41), (0, u "stackSize"), (0, u "()I"), (0, .methodref 13 43), (0, .nameAndType 44 31), (0, u "stackValue"), (3, u "law"), (0, u "(IIIII)Z")] 2

def k1m0 : Method := { name := "<init>", desc := "()V", sig := { parameters := [], returnType := none }, accessFlags := 1, code := none }
def k1c1 : Code := { maxStack := 2, maxLocals := 6, code := method_2_code, exceptionTable := #[], attributes := #[] }
def k1m1 : Method := { name := "pick", desc := "(IIIII)I", sig := { parameters := [.int, .int, .int, .int, .int], returnType := some .int }, accessFlags := 10, code := some k1c1 }
def k1c2 : Code := { maxStack := 2, maxLocals := 3, code := method_3_code, exceptionTable := #[], attributes := #[] }
def k1m2 : Method := { name := "after", desc := "(III)I", sig := { parameters := [.int, .int, .int], returnType := some .int }, accessFlags := 10, code := some k1c2 }
def k1c3 : Code := { maxStack := 5, maxLocals := 9, code := code, exceptionTable := #[], attributes := #[] }
def k1m3 : Method := { name := "law", desc := "(IIIII)Z", sig := { parameters := [.int, .int, .int, .int, .int], returnType := some .boolean }, accessFlags := 9, code := some k1c3 }
/-- com/example/bytewright/bytewright/classfile/FrameReplacePinLaw -/
def k1 : Class := { plain "com/example/bytewright/bytewright/classfile/FrameReplacePinLaw" (some 0) with
  accessFlags := 49
  interfaces := #[]
  cf := some (fileOf pool1 8 #[] #[{ accessFlags := 1, nameIndex := 5, descriptorIndex := 6, attributes := #[] }, { accessFlags := 10, nameIndex := 11, descriptorIndex := 12, attributes := #[] }, { accessFlags := 10, nameIndex := 34, descriptorIndex := 35, attributes := #[] }, { accessFlags := 9, nameIndex := 48, descriptorIndex := 49, attributes := #[] }] 49 2 #[] #[])
  fields := #[]
  methods := #[k1m0, k1m1, k1m2, k1m3]
  instanceTypes := #[]
  staticTypes := #[]
  resolved := Array.replicate 52 none
  statics := none }

def pool2 : Array CpInfo := pool [(1, .methodref 2 3), (0, .class_ 4), (0, .nameAndType 5 6), (0, u "java/lang/Object"), (0, u "<init>"), (0, u "()V"), (0, .fieldref 8 9), (0, .class_ 10), (0, .nameAndType 11 12), (0, u "com/example/bytewright/bytewright/classfile/Frame"), (0, u "locals"), (0, u "[I"), (0, .fieldref 8 14), (0, .nameAndType 15 12), (0, u "NO_VALUES"), (0, .fieldref 8 17), (0, .nameAndType 18 12), (0, u "stack"), (5, .fieldref 8 25), (0, .nameAndType 26 27), (0, u "stackSize"), (0, u "I"), (0, .methodref 29 30), (0, .class_ 31), (0, .nameAndType 32 33), (0, u "java/util/Arrays"), (0, u "copyOf"), (0, u "([II)[I"), (0, .fieldref 8 35), (0, .nameAndType 36 27), (0, u "stackWords"), (2, u "thisUninitialized"), (0, u "Z"), (3, .class_ 45), (0, u "com/example/bytewright/bytewright/classfile/VerificationType"), (10, .methodref 57 58), (0, .class_ 59), (0, .nameAndType 60 61), (0, u "java/lang/Math"), (0, u "max"), (0, u "(II)I"), (2, u "push"), (0, u "(I)V"), (0, .methodref 44 67), (0, .nameAndType 68 69), (0, u "size"), (0, u "(I)I"), (10, u "()I"), (4, u "local"), (0, u "setLocal"), (0, u "(II)V"), (0, u "stackValue"), (2, u "replace")] 5

def k2c0 : Code := { maxStack := 2, maxLocals := 2, code := prog_47_method_1_code, exceptionTable := #[], attributes := #[] }
def k2m0 : Method := { name := "<init>", desc := "(I)V", sig := { parameters := [.int], returnType := none }, accessFlags := 0, code := some k2c0 }
def k2c1 : Code := { maxStack := 2, maxLocals := 2, code := prog_47_method_10_code, exceptionTable := #[], attributes := #[] }
def k2m1 : Method := { name := "local", desc := "(I)I", sig := { parameters := [.int], returnType := some .int }, accessFlags := 0, code := some k2c1 }
def k2c2 : Code := { maxStack := 5, maxLocals := 5, code := prog_47_method_11_code, exceptionTable := #[], attributes := #[] }
def k2m2 : Method := { name := "setLocal", desc := "(II)V", sig := { parameters := [.int, .int], returnType := none }, accessFlags := 0, code := some k2c2 }
def k2c3 : Code := { maxStack := 1, maxLocals := 1, code := prog_47_method_12_code, exceptionTable := #[], attributes := #[] }
def k2m3 : Method := { name := "stackSize", desc := "()I", sig := { parameters := [], returnType := some .int }, accessFlags := 0, code := some k2c3 }
def k2c4 : Code := { maxStack := 2, maxLocals := 2, code := prog_47_method_14_code, exceptionTable := #[], attributes := #[] }
def k2m4 : Method := { name := "stackValue", desc := "(I)I", sig := { parameters := [.int], returnType := some .int }, accessFlags := 0, code := some k2c4 }
def k2c5 : Code := { maxStack := 5, maxLocals := 2, code := prog_47_method_16_code, exceptionTable := #[], attributes := #[] }
def k2m5 : Method := { name := "push", desc := "(I)V", sig := { parameters := [.int], returnType := none }, accessFlags := 0, code := some k2c5 }
def k2c6 : Code := { maxStack := 3, maxLocals := 4, code := prog_47_method_18_code, exceptionTable := #[], attributes := #[] }
def k2m6 : Method := { name := "replace", desc := "(II)V", sig := { parameters := [.int, .int], returnType := none }, accessFlags := 0, code := some k2c6 }
/-- com/example/bytewright/bytewright/classfile/Frame -/
def k2 : Class := { plain "com/example/bytewright/bytewright/classfile/Frame" (some 0) with
  accessFlags := 48
  interfaces := #[]
  cf := some (fileOf pool2 8 #[] #[{ accessFlags := 0, nameIndex := 5, descriptorIndex := 65, attributes := #[] }, { accessFlags := 0, nameIndex := 85, descriptorIndex := 69, attributes := #[] }, { accessFlags := 0, nameIndex := 86, descriptorIndex := 87, attributes := #[] }, { accessFlags := 0, nameIndex := 26, descriptorIndex := 80, attributes := #[] }, { accessFlags := 0, nameIndex := 88, descriptorIndex := 69, attributes := #[] }, { accessFlags := 0, nameIndex := 64, descriptorIndex := 65, attributes := #[] }, { accessFlags := 0, nameIndex := 91, descriptorIndex := 87, attributes := #[] }] 48 2 #[] #[{ accessFlags := 26, nameIndex := 15, descriptorIndex := 12, attributes := #[] }, { accessFlags := 2, nameIndex := 11, descriptorIndex := 12, attributes := #[] }, { accessFlags := 2, nameIndex := 18, descriptorIndex := 12, attributes := #[] }, { accessFlags := 2, nameIndex := 26, descriptorIndex := 27, attributes := #[] }, { accessFlags := 2, nameIndex := 36, descriptorIndex := 27, attributes := #[] }, { accessFlags := 2, nameIndex := 39, descriptorIndex := 40, attributes := #[] }])
  fields := #[{ name := "NO_VALUES", type := (.array .int), accessFlags := 26, slot := 0, constantValue := 0 }, { name := "locals", type := (.array .int), accessFlags := 2, slot := 0, constantValue := 0 }, { name := "stack", type := (.array .int), accessFlags := 2, slot := 1, constantValue := 0 }, { name := "stackSize", type := .int, accessFlags := 2, slot := 2, constantValue := 0 }, { name := "stackWords", type := .int, accessFlags := 2, slot := 3, constantValue := 0 }, { name := "thisUninitialized", type := .boolean, accessFlags := 2, slot := 4, constantValue := 0 }]
  methods := #[k2m0, k2m1, k2m2, k2m3, k2m4, k2m5, k2m6]
  instanceTypes := #[(.array .int), (.array .int), .int, .int, .boolean]
  staticTypes := #[(.array .int)]
  resolved := Array.replicate 97 none
  statics := some 0 }

def pool3 : Array CpInfo := pool [(1, .class_ 2), (0, u "com/example/bytewright/bytewright/classfile/VerificationType"), (1, .class_ 6), (1, u "java/lang/Object"), (0, u "<init>"), (0, u "()V"), (3, u "(I)I"), (2, u "FITTING_TAGS"), (0, u "[I"), (37, u "TOP"), (0, u "I"), (2, u "INTEGER"), (1, u "FLOAT"), (1, u "DOUBLE"), (1, u "LONG"), (1, u "NULL"), (1, u "UNINITIALIZED_THIS"), (1, u "OBJECT_TAG"), (1, u "UNINITIALIZED_TAG"), (1, u "TAG_BITS"), (0, u "TAG_MASK"), (10, u "size")] 34

def k3m0 : Method := { name := "<init>", desc := "()V", sig := { parameters := [], returnType := none }, accessFlags := 2, code := none }
def k3c1 : Code := { maxStack := 2, maxLocals := 1, code := prog_65_method_8_code, exceptionTable := #[], attributes := #[] }
def k3m1 : Method := { name := "size", desc := "(I)I", sig := { parameters := [.int], returnType := some .int }, accessFlags := 8, code := some k3c1 }
/-- com/example/bytewright/bytewright/classfile/VerificationType -/
def k3 : Class := { plain "com/example/bytewright/bytewright/classfile/VerificationType" (some 0) with
  accessFlags := 48
  interfaces := #[]
  cf := some (fileOf pool3 1 #[] #[{ accessFlags := 2, nameIndex := 7, descriptorIndex := 8, attributes := #[] }, { accessFlags := 8, nameIndex := 86, descriptorIndex := 12, attributes := #[] }] 48 4 #[] #[{ accessFlags := 24, nameIndex := 54, descriptorIndex := 55, attributes := #[] }, { accessFlags := 24, nameIndex := 58, descriptorIndex := 55, attributes := #[] }, { accessFlags := 24, nameIndex := 60, descriptorIndex := 55, attributes := #[] }, { accessFlags := 24, nameIndex := 62, descriptorIndex := 55, attributes := #[] }, { accessFlags := 24, nameIndex := 64, descriptorIndex := 55, attributes := #[] }, { accessFlags := 24, nameIndex := 66, descriptorIndex := 55, attributes := #[] }, { accessFlags := 24, nameIndex := 68, descriptorIndex := 55, attributes := #[] }, { accessFlags := 24, nameIndex := 70, descriptorIndex := 55, attributes := #[] }, { accessFlags := 24, nameIndex := 72, descriptorIndex := 55, attributes := #[] }, { accessFlags := 26, nameIndex := 74, descriptorIndex := 55, attributes := #[] }, { accessFlags := 26, nameIndex := 75, descriptorIndex := 55, attributes := #[] }, { accessFlags := 26, nameIndex := 15, descriptorIndex := 16, attributes := #[] }])
  fields := #[{ name := "TOP", type := .int, accessFlags := 24, slot := 0, constantValue := 0 }, { name := "INTEGER", type := .int, accessFlags := 24, slot := 1, constantValue := 0 }, { name := "FLOAT", type := .int, accessFlags := 24, slot := 2, constantValue := 0 }, { name := "DOUBLE", type := .int, accessFlags := 24, slot := 3, constantValue := 0 }, { name := "LONG", type := .int, accessFlags := 24, slot := 4, constantValue := 0 }, { name := "NULL", type := .int, accessFlags := 24, slot := 5, constantValue := 0 }, { name := "UNINITIALIZED_THIS", type := .int, accessFlags := 24, slot := 6, constantValue := 0 }, { name := "OBJECT_TAG", type := .int, accessFlags := 24, slot := 7, constantValue := 0 }, { name := "UNINITIALIZED_TAG", type := .int, accessFlags := 24, slot := 8, constantValue := 0 }, { name := "TAG_BITS", type := .int, accessFlags := 26, slot := 9, constantValue := 0 }, { name := "TAG_MASK", type := .int, accessFlags := 26, slot := 10, constantValue := 0 }, { name := "FITTING_TAGS", type := (.array .int), accessFlags := 26, slot := 11, constantValue := 0 }]
  methods := #[k3m0, k3m1]
  instanceTypes := #[]
  staticTypes := #[.int, .int, .int, .int, .int, .int, .int, .int, .int, .int, .int, (.array .int)]
  resolved := Array.replicate 121 none
  statics := none }

def pool4 : Array CpInfo := pool [(1, .class_ 2), (0, u "java/lang/Math"), (1, .class_ 6), (1, u "java/lang/Object"), (0, u "<init>"), (0, u "()V"), (89, .class_ 100), (1, u "java/lang/Math$RandomNumberGeneratorHolder"), (71, u "negativeZeroFloatBits"), (0, u "J"), (2, u "negativeZeroDoubleBits"), (21, u "max"), (2, u "min"), (43, u "$assertionsDisabled"), (0, u "Z"), (88, u "(II)I"), (2, u "twoToTheDoubleScaleDown"), (0, u "D"), (4, u "twoToTheDoubleScaleUp"), (9, u "E"), (3, u "PI"), (2, u "TAU"), (2, u "DEGREES_TO_RADIANS"), (0, u "RADIANS_TO_DEGREES")] 94

def k4m0 : Method := { name := "<init>", desc := "()V", sig := { parameters := [], returnType := none }, accessFlags := 2, code := none }
def k4c1 : Code := { maxStack := 2, maxLocals := 2, code := jdk_29_method_65_code, exceptionTable := #[], attributes := #[] }
def k4m1 : Method := { name := "max", desc := "(II)I", sig := { parameters := [.int, .int], returnType := some .int }, accessFlags := 9, code := some k4c1 }
def k4c2 : Code := { maxStack := 2, maxLocals := 2, code := jdk_29_method_69_code, exceptionTable := #[], attributes := #[] }
def k4m2 : Method := { name := "min", desc := "(II)I", sig := { parameters := [.int, .int], returnType := some .int }, accessFlags := 9, code := some k4c2 }
/-- java/lang/Math -/
def k4 : Class := { plain "java/lang/Math" (some 0) with
  accessFlags := 49
  interfaces := #[]
  cf := some (fileOf pool4 1 #[.nestMembers #[98]] #[{ accessFlags := 2, nameIndex := 7, descriptorIndex := 8, attributes := #[] }, { accessFlags := 9, nameIndex := 198, descriptorIndex := 335, attributes := #[] }, { accessFlags := 9, nameIndex := 201, descriptorIndex := 335, attributes := #[] }] 49 4 #[] #[{ accessFlags := 25, nameIndex := 354, descriptorIndex := 339, attributes := #[] }, { accessFlags := 25, nameIndex := 358, descriptorIndex := 339, attributes := #[] }, { accessFlags := 25, nameIndex := 361, descriptorIndex := 339, attributes := #[] }, { accessFlags := 26, nameIndex := 364, descriptorIndex := 339, attributes := #[] }, { accessFlags := 26, nameIndex := 365, descriptorIndex := 339, attributes := #[] }, { accessFlags := 26, nameIndex := 172, descriptorIndex := 173, attributes := #[] }, { accessFlags := 26, nameIndex := 176, descriptorIndex := 173, attributes := #[] }, { accessFlags := 8, nameIndex := 344, descriptorIndex := 339, attributes := #[] }, { accessFlags := 8, nameIndex := 338, descriptorIndex := 339, attributes := #[] }, { accessFlags := 4120, nameIndex := 245, descriptorIndex := 246, attributes := #[] }])
  fields := #[{ name := "E", type := .double, accessFlags := 25, slot := 0, constantValue := 0 }, { name := "PI", type := .double, accessFlags := 25, slot := 1, constantValue := 0 }, { name := "TAU", type := .double, accessFlags := 25, slot := 2, constantValue := 0 }, { name := "DEGREES_TO_RADIANS", type := .double, accessFlags := 26, slot := 3, constantValue := 0 }, { name := "RADIANS_TO_DEGREES", type := .double, accessFlags := 26, slot := 4, constantValue := 0 }, { name := "negativeZeroFloatBits", type := .long, accessFlags := 26, slot := 5, constantValue := 0 }, { name := "negativeZeroDoubleBits", type := .long, accessFlags := 26, slot := 6, constantValue := 0 }, { name := "twoToTheDoubleScaleUp", type := .double, accessFlags := 8, slot := 7, constantValue := 0 }, { name := "twoToTheDoubleScaleDown", type := .double, accessFlags := 8, slot := 8, constantValue := 0 }, { name := "$assertionsDisabled", type := .boolean, accessFlags := 4120, slot := 9, constantValue := 0 }]
  methods := #[k4m0, k4m1, k4m2]
  instanceTypes := #[]
  staticTypes := #[.double, .double, .double, .double, .double, .long, .long, .double, .double, .boolean]
  resolved := Array.replicate 460 none
  statics := none }

def pool5 : Array CpInfo := pool [(2, .class_ 4), (1, u "java/lang/Object"), (0, u "<init>"), (0, u "()V"), (7, .class_ 16), (1, u "java/util/Arrays"), (57, .class_ 76), (1, u "java/util/Arrays$NaturalOrder"), (36, .class_ 115), (1, u "java/util/Arrays$LegacyMergeSort"), (1, u "Z"), (32, .methodref 151 152), (0, .class_ 153), (0, .nameAndType 154 155), (0, u "java/lang/System"), (0, u "arraycopy"), (0, u "(Ljava/lang/Object;ILjava/lang/Object;II)V"), (146, u "copyOf"), (1, .methodref 305 306), (0, .class_ 307), (0, .nameAndType 308 309), (0, u "java/lang/Math"), (0, u "min"), (0, u "(II)I"), (65, .class_ 376), (0, u "java/util/Arrays$ArrayList"), (68, u "$assertionsDisabled"), (269, u "MIN_ARRAY_SORT_GRAN"), (0, u "I"), (2, u "INSERTIONSORT_THRESHOLD"), (151, u "([II)[I"), (103, .class_ 976), (0, u "java/util/Arrays$ArrayItr")] 52

def k5m0 : Method := { name := "<init>", desc := "()V", sig := { parameters := [], returnType := none }, accessFlags := 2, code := none }
def k5c1 : Code := { maxStack := 6, maxLocals := 3, code := jdk_65_method_123_code, exceptionTable := #[], attributes := #[] }
def k5m1 : Method := { name := "copyOf", desc := "([II)[I", sig := { parameters := [(.array .int), .int], returnType := some (.array .int) }, accessFlags := 9, code := some k5c1 }
/-- java/util/Arrays -/
def k5 : Class := { plain "java/util/Arrays" (some 0) with
  accessFlags := 49
  interfaces := #[]
  cf := some (fileOf pool5 14 #[.nestMembers #[975, 375, 113, 74]] #[{ accessFlags := 2, nameIndex := 5, descriptorIndex := 6, attributes := #[] }, { accessFlags := 9, nameIndex := 302, descriptorIndex := 871, attributes := #[] }] 49 2 #[] #[{ accessFlags := 26, nameIndex := 715, descriptorIndex := 716, attributes := #[] }, { accessFlags := 26, nameIndex := 719, descriptorIndex := 716, attributes := #[] }, { accessFlags := 4120, nameIndex := 445, descriptorIndex := 117, attributes := #[] }])
  fields := #[{ name := "MIN_ARRAY_SORT_GRAN", type := .int, accessFlags := 26, slot := 0, constantValue := 0 }, { name := "INSERTIONSORT_THRESHOLD", type := .int, accessFlags := 26, slot := 1, constantValue := 0 }, { name := "$assertionsDisabled", type := .boolean, accessFlags := 4120, slot := 2, constantValue := 0 }]
  methods := #[k5m0, k5m1]
  instanceTypes := #[]
  staticTypes := #[.int, .int, .boolean]
  resolved := Array.replicate 1029 none
  statics := none }

def pool6 : Array CpInfo := pool [(2, .class_ 4), (1, u "java/lang/Object"), (0, u "<init>"), (0, u "()V"), (1, .class_ 10), (1, u "java/lang/System"), (0, u "allowSecurityManager"), (0, u "I"), (16, u "cons"), (0, u "Ljava/io/Console;"), (77, .class_ 110), (1, u "java/lang/System$CallersHolder"), (43, u "initialErrStream"), (0, u "Ljava/io/PrintStream;"), (19, u "security"), (0, u "Ljava/lang/SecurityManager;"), (31, .class_ 209), (0, u "java/lang/System$1"), (7, u "props"), (0, u "Ljava/util/Properties;"), (2, u "lineSeparator"), (0, u "Ljava/lang/String;"), (96, .class_ 321), (1, u "java/lang/System$LoggerFinder"), (5, .class_ 328), (0, u "java/lang/System$Logger"), (67, u "err"), (2, u "out"), (91, u "notSupportedJnuEncoding"), (15, u "in"), (17, u "initialIn"), (0, u "Ljava/io/InputStream;"), (35, u "bootLayer"), (0, u "Ljava/lang/ModuleLayer;"), (99, .class_ 664), (0, u "java/lang/System$2"), (9, u "NEVER"), (2, u "MAYBE"), (49, u "arraycopy"), (0, u "(Ljava/lang/Object;ILjava/lang/Object;II)V"), (72, .class_ 802), (0, u "java/lang/System$Logger$Level")] 31

def k6m0 : Method := { name := "<init>", desc := "()V", sig := { parameters := [], returnType := none }, accessFlags := 2, code := none }
def k6m1 : Method := { name := "arraycopy", desc := "(Ljava/lang/Object;ILjava/lang/Object;II)V", sig := { parameters := [(.object "java/lang/Object"), .int, (.object "java/lang/Object"), .int, .int], returnType := none }, accessFlags := 265, code := none }
/-- java/lang/System -/
def k6 : Class := { plain "java/lang/System" (some 0) with
  accessFlags := 49
  interfaces := #[]
  cf := some (fileOf pool6 8 #[.nestMembers #[319, 327, 801, 108, 663, 208]] #[{ accessFlags := 2, nameIndex := 5, descriptorIndex := 6, attributes := #[] }, { accessFlags := 265, nameIndex := 727, descriptorIndex := 728, attributes := #[] }] 49 2 #[] #[{ accessFlags := 25, nameIndex := 507, descriptorIndex := 526, attributes := #[] }, { accessFlags := 25, nameIndex := 399, descriptorIndex := 155, attributes := #[] }, { accessFlags := 25, nameIndex := 396, descriptorIndex := 155, attributes := #[] }, { accessFlags := 10, nameIndex := 525, descriptorIndex := 526, attributes := #[] }, { accessFlags := 26, nameIndex := 674, descriptorIndex := 12, attributes := #[] }, { accessFlags := 26, nameIndex := 677, descriptorIndex := 12, attributes := #[] }, { accessFlags := 10, nameIndex := 11, descriptorIndex := 12, attributes := #[] }, { accessFlags := 74, nameIndex := 175, descriptorIndex := 176, attributes := #[] }, { accessFlags := 10, nameIndex := 491, descriptorIndex := 222, attributes := #[] }, { accessFlags := 74, nameIndex := 29, descriptorIndex := 30, attributes := #[] }, { accessFlags := 74, nameIndex := 154, descriptorIndex := 155, attributes := #[] }, { accessFlags := 10, nameIndex := 217, descriptorIndex := 218, attributes := #[] }, { accessFlags := 10, nameIndex := 221, descriptorIndex := 222, attributes := #[] }, { accessFlags := 8, nameIndex := 562, descriptorIndex := 563, attributes := #[] }])
  fields := #[{ name := "in", type := (.object "java/io/InputStream"), accessFlags := 25, slot := 0, constantValue := 0 }, { name := "out", type := (.object "java/io/PrintStream"), accessFlags := 25, slot := 1, constantValue := 0 }, { name := "err", type := (.object "java/io/PrintStream"), accessFlags := 25, slot := 2, constantValue := 0 }, { name := "initialIn", type := (.object "java/io/InputStream"), accessFlags := 10, slot := 3, constantValue := 0 }, { name := "NEVER", type := .int, accessFlags := 26, slot := 4, constantValue := 0 }, { name := "MAYBE", type := .int, accessFlags := 26, slot := 5, constantValue := 0 }, { name := "allowSecurityManager", type := .int, accessFlags := 10, slot := 6, constantValue := 0 }, { name := "security", type := (.object "java/lang/SecurityManager"), accessFlags := 74, slot := 7, constantValue := 0 }, { name := "notSupportedJnuEncoding", type := (.object "java/lang/String"), accessFlags := 10, slot := 8, constantValue := 0 }, { name := "cons", type := (.object "java/io/Console"), accessFlags := 74, slot := 9, constantValue := 0 }, { name := "initialErrStream", type := (.object "java/io/PrintStream"), accessFlags := 74, slot := 10, constantValue := 0 }, { name := "props", type := (.object "java/util/Properties"), accessFlags := 10, slot := 11, constantValue := 0 }, { name := "lineSeparator", type := (.object "java/lang/String"), accessFlags := 10, slot := 12, constantValue := 0 }, { name := "bootLayer", type := (.object "java/lang/ModuleLayer"), accessFlags := 8, slot := 13, constantValue := 0 }]
  methods := #[k6m0, k6m1]
  instanceTypes := #[]
  staticTypes := #[(.object "java/io/InputStream"), (.object "java/io/PrintStream"), (.object "java/io/PrintStream"), (.object "java/io/InputStream"), .int, .int, .int, (.object "java/lang/SecurityManager"), (.object "java/lang/String"), (.object "java/io/Console"), (.object "java/io/PrintStream"), (.object "java/util/Properties"), (.object "java/lang/String"), (.object "java/lang/ModuleLayer")]
  resolved := Array.replicate 834 none
  statics := none }

def pool7 : Array CpInfo := pool [(1, u "java/lang/Cloneable"), (0, .class_ 1), (0, u "java/lang/Object"), (0, .class_ 3)] 3

/-- java/lang/Cloneable -/
def k7 : Class := { plain "java/lang/Cloneable" (some 0) with
  accessFlags := 1537
  interfaces := #[]
  cf := some (fileOf pool7 2 #[] #[] 1537 4 #[] #[])
  fields := #[]
  methods := #[]
  instanceTypes := #[]
  staticTypes := #[]
  resolved := Array.replicate 8 none
  statics := none }

def pool8 : Array CpInfo := pool [(1, u "java/io/Serializable"), (0, .class_ 1), (0, u "java/lang/Object"), (0, .class_ 3)] 3

/-- java/io/Serializable -/
def k8 : Class := { plain "java/io/Serializable" (some 0) with
  accessFlags := 1537
  interfaces := #[]
  cf := some (fileOf pool8 2 #[] #[] 1537 4 #[] #[])
  fields := #[]
  methods := #[]
  instanceTypes := #[]
  staticTypes := #[]
  resolved := Array.replicate 8 none
  statics := none }

/-- the primitive byte -/
def k9 : Class := { plain "byte" none with kind := .primitive 'B', accessFlags := 0x411 }
/-- [B -/
def k10 : Class := { plain "[B" (some 0) with kind := .array 9 .byte, interfaces := #[7, 8], accessFlags := 1041 }

/-- the primitive int -/
def k11 : Class := { plain "int" none with kind := .primitive 'I', accessFlags := 0x411 }
/-- [I -/
def k12 : Class := { plain "[I" (some 0) with kind := .array 11 .int, interfaces := #[7, 8], accessFlags := 1041 }

def heap : Heap := #[{ cls := 2, slots := #[.ref 1], vm := .statics 2 },
  { cls := 12, slots := #[], vm := .none }]
def classes : Array Class := #[k0, k1, k2, k3, k4, k5, k6, k7, k8, k9, k10, k11, k12]
def interned : List (Array UInt16 × Addr) := []
def slotsUsed : Nat := 1
def theMethod : MethodId := ⟨1, 3⟩
def args0 : Array Value := #[.int 5, .int 6, .int 7, .int 8, .int 9]
def aboutOver (below : List Frame) : State where
  vm := { classes := classes, interned := interned.toArray }
  heap := heap
  slotsUsed := slotsUsed
  threads := #[{ frames := .invoking theMethod args0 :: below }]
def below0 : List Frame := [.native { method := ⟨0, 0⟩, args := #[] }]
def about1 : State := aboutOver below0
def p0 : Program := .bare "" "" ""
def e0 : Env := launch0.env 0 0 0
theorem w_frames : about1.frames = Frame.invoking theMethod args0 :: below0 := rfl
set_option maxRecDepth 65536 in
theorem w_args : argsFit about1.vm theMethod args0 = true := by decide +kernel
set_option maxRecDepth 65536 in
theorem w_heap : heapFits about1 = true := by decide +kernel
set_option maxRecDepth 65536 in
theorem w_runnable : about1.curStatus? = some .runnable := by decide +kernel
set_option maxRecDepth 65536 in
theorem w_alone : about1.alone = true := by decide +kernel
set_option maxRecDepth 65536 in
theorem w_named : about1.methodNamed? x = some theMethod := by decide +kernel
set_option maxRecDepth 65536 in
theorem w_hears : about1.hears theMethod below0 = true := by decide +kernel
set_option maxRecDepth 65536 in
theorem w_ripe : about1.ripe theMethod args0 below0 = true := by decide +kernel
theorem w_running : about1.status = .running := rfl
set_option maxRecDepth 65536 in
theorem w_room : about1.hasRoom e0.platform room_1 = true :=
  launch0.hasRoom_least _ room_1 (by decide +kernel) (by decide +kernel) (by decide +kernel) (by decide +kernel) (by decide +kernel) (by decide +kernel)
theorem allAtoms_all (ts : List Jvm.Cond) (a : Array Jvm.Value) (st : Jvm.State) : (allAtoms ts).before a st = ts.all (fun c => c.before a st) := by
  induction ts with
  | nil => rfl
  | cons c t ih =>
    show (Jvm.Cond.and c (allAtoms t)).before a st = _
    rw [Jvm.Cond.before_and, ih, List.all_cons]
def words1 : List Jvm.Cond := Jvm.Cond.code x code maxLocals ret :: tables_1
/-- a 'code' word, met by the world's own term for the bytes: nothing is compared byte by byte -/
theorem code_word {y : MethodName} {bytes : ByteArray} {mx : Nat} {rt : Option FieldType} {a : Array Value} {s : State} {m : MethodId} {meth : Method} {c : Code} (h1 : s.methodNamed? y = some m) (h2 : s.vm.method? m = some meth) (h3 : meth.code = some c) (h4 : c.code = bytes)
    (h5 : (c.maxLocals == mx && c.exceptionTable.isEmpty && decide (c.maxStack ≤ mostOperands) && decide (meth.sig.returnType = rt) && !meth.locks && decide (parseMethodDescriptor y.desc = some meth.sig)) = true) : (Jvm.Cond.code y bytes mx rt).before a s = true := by
  simp only [Bool.and_eq_true, beq_iff_eq, Bool.not_eq_true', decide_eq_true_eq] at h5
  obtain ⟨⟨⟨⟨⟨g1, g2⟩, g3⟩, g4⟩, g5⟩, g6⟩ := h5
  simp [Cond.before, Cond.holds, Cond.value, h1, h2, h3, h4, g1, g2, g3, g4, g5, g6]
def isCode : Jvm.Cond → Bool
  | .code _ _ _ _ => true
  | _ => false
theorem all_split {L : List Jvm.Cond} {P : Jvm.Cond → Bool} (h1 : L.all (fun c => isCode c || P c) = true) (h2 : ∀ c ∈ L.filter isCode, P c = true) : L.all P = true := by
  refine List.all_eq_true.mpr fun c hc => ?_
  have h := List.all_eq_true.mp h1 c hc
  rcases Bool.eq_false_or_eq_true (isCode c) with hi | hi
  · exact h2 c (List.mem_filter.mpr ⟨hc, hi⟩)
  · simpa [hi] using h
set_option maxRecDepth 65536 in
theorem w_c0 : (Jvm.Cond.code x code maxLocals ret).before args0 about1 = true := code_word (m := ⟨1, 3⟩) (meth := k1m3) (c := k1c3) (by decide +kernel) rfl rfl rfl (by decide +kernel)
set_option maxRecDepth 65536 in
theorem w_c1 : (Jvm.Cond.code ({ cls := "com/example/bytewright/bytewright/classfile/FrameReplacePinLaw", name := "pick", desc := "(IIIII)I" } : Jvm.MethodName) method_2_code (6 : Nat) (Option.some Jvm.ClassFile.FieldType.int)).before args0 about1 = true := code_word (m := ⟨1, 1⟩) (meth := k1m1) (c := k1c1) (by decide +kernel) rfl rfl rfl (by decide +kernel)
set_option maxRecDepth 65536 in
theorem w_c2 : (Jvm.Cond.code ({ cls := "com/example/bytewright/bytewright/classfile/Frame", name := "<init>", desc := "(I)V" } : Jvm.MethodName) prog_47_method_1_code (2 : Nat) (Option.none : Option Jvm.ClassFile.FieldType)).before args0 about1 = true := code_word (m := ⟨2, 0⟩) (meth := k2m0) (c := k2c0) (by decide +kernel) rfl rfl rfl (by decide +kernel)
set_option maxRecDepth 65536 in
theorem w_c3 : (Jvm.Cond.code ({ cls := "java/lang/Object", name := "<init>", desc := "()V" } : Jvm.MethodName) object_method_1_code (1 : Nat) (Option.none : Option Jvm.ClassFile.FieldType)).before args0 about1 = true := code_word (m := ⟨0, 0⟩) (meth := k0m0) (c := k0c0) (by decide +kernel) rfl rfl rfl (by decide +kernel)
set_option maxRecDepth 65536 in
theorem w_c4 : (Jvm.Cond.code ({ cls := "com/example/bytewright/bytewright/classfile/Frame", name := "setLocal", desc := "(II)V" } : Jvm.MethodName) prog_47_method_11_code (5 : Nat) (Option.none : Option Jvm.ClassFile.FieldType)).before args0 about1 = true := code_word (m := ⟨2, 2⟩) (meth := k2m2) (c := k2c2) (by decide +kernel) rfl rfl rfl (by decide +kernel)
set_option maxRecDepth 65536 in
theorem w_c5 : (Jvm.Cond.code ({ cls := "com/example/bytewright/bytewright/classfile/VerificationType", name := "size", desc := "(I)I" } : Jvm.MethodName) prog_65_method_8_code (1 : Nat) (Option.some Jvm.ClassFile.FieldType.int)).before args0 about1 = true := code_word (m := ⟨3, 1⟩) (meth := k3m1) (c := k3c1) (by decide +kernel) rfl rfl rfl (by decide +kernel)
set_option maxRecDepth 65536 in
theorem w_c6 : (Jvm.Cond.code ({ cls := "com/example/bytewright/bytewright/classfile/Frame", name := "push", desc := "(I)V" } : Jvm.MethodName) prog_47_method_16_code (2 : Nat) (Option.none : Option Jvm.ClassFile.FieldType)).before args0 about1 = true := code_word (m := ⟨2, 5⟩) (meth := k2m5) (c := k2c5) (by decide +kernel) rfl rfl rfl (by decide +kernel)
set_option maxRecDepth 65536 in
theorem w_c7 : (Jvm.Cond.code ({ cls := "java/lang/Math", name := "max", desc := "(II)I" } : Jvm.MethodName) jdk_29_method_65_code (2 : Nat) (Option.some Jvm.ClassFile.FieldType.int)).before args0 about1 = true := code_word (m := ⟨4, 1⟩) (meth := k4m1) (c := k4c1) (by decide +kernel) rfl rfl rfl (by decide +kernel)
set_option maxRecDepth 65536 in
theorem w_c8 : (Jvm.Cond.code ({ cls := "java/util/Arrays", name := "copyOf", desc := "([II)[I" } : Jvm.MethodName) jdk_65_method_123_code (3 : Nat) (Option.some (Jvm.ClassFile.FieldType.array Jvm.ClassFile.FieldType.int))).before args0 about1 = true := code_word (m := ⟨5, 1⟩) (meth := k5m1) (c := k5c1) (by decide +kernel) rfl rfl rfl (by decide +kernel)
set_option maxRecDepth 65536 in
theorem w_c9 : (Jvm.Cond.code ({ cls := "java/lang/Math", name := "min", desc := "(II)I" } : Jvm.MethodName) jdk_29_method_69_code (2 : Nat) (Option.some Jvm.ClassFile.FieldType.int)).before args0 about1 = true := code_word (m := ⟨4, 2⟩) (meth := k4m2) (c := k4c2) (by decide +kernel) rfl rfl rfl (by decide +kernel)
set_option maxRecDepth 65536 in
theorem w_c10 : (Jvm.Cond.code ({ cls := "com/example/bytewright/bytewright/classfile/Frame", name := "replace", desc := "(II)V" } : Jvm.MethodName) prog_47_method_18_code (4 : Nat) (Option.none : Option Jvm.ClassFile.FieldType)).before args0 about1 = true := code_word (m := ⟨2, 6⟩) (meth := k2m6) (c := k2c6) (by decide +kernel) rfl rfl rfl (by decide +kernel)
set_option maxRecDepth 65536 in
theorem w_c11 : (Jvm.Cond.code ({ cls := "com/example/bytewright/bytewright/classfile/Frame", name := "local", desc := "(I)I" } : Jvm.MethodName) prog_47_method_10_code (2 : Nat) (Option.some Jvm.ClassFile.FieldType.int)).before args0 about1 = true := code_word (m := ⟨2, 1⟩) (meth := k2m1) (c := k2c1) (by decide +kernel) rfl rfl rfl (by decide +kernel)
set_option maxRecDepth 65536 in
theorem w_c12 : (Jvm.Cond.code ({ cls := "com/example/bytewright/bytewright/classfile/FrameReplacePinLaw", name := "after", desc := "(III)I" } : Jvm.MethodName) method_3_code (3 : Nat) (Option.some Jvm.ClassFile.FieldType.int)).before args0 about1 = true := code_word (m := ⟨1, 2⟩) (meth := k1m2) (c := k1c2) (by decide +kernel) rfl rfl rfl (by decide +kernel)
set_option maxRecDepth 65536 in
theorem w_c13 : (Jvm.Cond.code ({ cls := "com/example/bytewright/bytewright/classfile/Frame", name := "stackSize", desc := "()I" } : Jvm.MethodName) prog_47_method_12_code (1 : Nat) (Option.some Jvm.ClassFile.FieldType.int)).before args0 about1 = true := code_word (m := ⟨2, 3⟩) (meth := k2m3) (c := k2c3) (by decide +kernel) rfl rfl rfl (by decide +kernel)
set_option maxRecDepth 65536 in
theorem w_c14 : (Jvm.Cond.code ({ cls := "com/example/bytewright/bytewright/classfile/Frame", name := "stackValue", desc := "(I)I" } : Jvm.MethodName) prog_47_method_14_code (2 : Nat) (Option.some Jvm.ClassFile.FieldType.int)).before args0 about1 = true := code_word (m := ⟨2, 4⟩) (meth := k2m4) (c := k2c4) (by decide +kernel) rfl rfl rfl (by decide +kernel)
def codes1 : List Jvm.Cond := [Jvm.Cond.code x code maxLocals ret, Jvm.Cond.code ({ cls := "com/example/bytewright/bytewright/classfile/FrameReplacePinLaw", name := "pick", desc := "(IIIII)I" } : Jvm.MethodName) method_2_code (6 : Nat) (Option.some Jvm.ClassFile.FieldType.int), Jvm.Cond.code ({ cls := "com/example/bytewright/bytewright/classfile/Frame", name := "<init>", desc := "(I)V" } : Jvm.MethodName) prog_47_method_1_code (2 : Nat) (Option.none : Option Jvm.ClassFile.FieldType), Jvm.Cond.code ({ cls := "java/lang/Object", name := "<init>", desc := "()V" } : Jvm.MethodName) object_method_1_code (1 : Nat) (Option.none : Option Jvm.ClassFile.FieldType), Jvm.Cond.code ({ cls := "com/example/bytewright/bytewright/classfile/Frame", name := "setLocal", desc := "(II)V" } : Jvm.MethodName) prog_47_method_11_code (5 : Nat) (Option.none : Option Jvm.ClassFile.FieldType), Jvm.Cond.code ({ cls := "com/example/bytewright/bytewright/classfile/VerificationType", name := "size", desc := "(I)I" } : Jvm.MethodName) prog_65_method_8_code (1 : Nat) (Option.some Jvm.ClassFile.FieldType.int), Jvm.Cond.code ({ cls := "com/example/bytewright/bytewright/classfile/Frame", name := "push", desc := "(I)V" } : Jvm.MethodName) prog_47_method_16_code (2 : Nat) (Option.none : Option Jvm.ClassFile.FieldType), Jvm.Cond.code ({ cls := "java/lang/Math", name := "max", desc := "(II)I" } : Jvm.MethodName) jdk_29_method_65_code (2 : Nat) (Option.some Jvm.ClassFile.FieldType.int), Jvm.Cond.code ({ cls := "java/util/Arrays", name := "copyOf", desc := "([II)[I" } : Jvm.MethodName) jdk_65_method_123_code (3 : Nat) (Option.some (Jvm.ClassFile.FieldType.array Jvm.ClassFile.FieldType.int)), Jvm.Cond.code ({ cls := "java/lang/Math", name := "min", desc := "(II)I" } : Jvm.MethodName) jdk_29_method_69_code (2 : Nat) (Option.some Jvm.ClassFile.FieldType.int), Jvm.Cond.code ({ cls := "com/example/bytewright/bytewright/classfile/Frame", name := "replace", desc := "(II)V" } : Jvm.MethodName) prog_47_method_18_code (4 : Nat) (Option.none : Option Jvm.ClassFile.FieldType), Jvm.Cond.code ({ cls := "com/example/bytewright/bytewright/classfile/Frame", name := "local", desc := "(I)I" } : Jvm.MethodName) prog_47_method_10_code (2 : Nat) (Option.some Jvm.ClassFile.FieldType.int), Jvm.Cond.code ({ cls := "com/example/bytewright/bytewright/classfile/FrameReplacePinLaw", name := "after", desc := "(III)I" } : Jvm.MethodName) method_3_code (3 : Nat) (Option.some Jvm.ClassFile.FieldType.int), Jvm.Cond.code ({ cls := "com/example/bytewright/bytewright/classfile/Frame", name := "stackSize", desc := "()I" } : Jvm.MethodName) prog_47_method_12_code (1 : Nat) (Option.some Jvm.ClassFile.FieldType.int), Jvm.Cond.code ({ cls := "com/example/bytewright/bytewright/classfile/Frame", name := "stackValue", desc := "(I)I" } : Jvm.MethodName) prog_47_method_14_code (2 : Nat) (Option.some Jvm.ClassFile.FieldType.int)]
set_option maxRecDepth 65536 in
theorem codes_eq : words1.filter isCode = codes1 := rfl
theorem w_codes : ∀ c ∈ words1.filter isCode, c.before args0 about1 = true := by
  rw [codes_eq]
  intro c hc
  simp only [codes1, List.mem_cons, List.not_mem_nil, or_false] at hc
  rcases hc with rfl | rfl | rfl | rfl | rfl | rfl | rfl | rfl | rfl | rfl | rfl | rfl | rfl | rfl | rfl
  · exact w_c0
  · exact w_c1
  · exact w_c2
  · exact w_c3
  · exact w_c4
  · exact w_c5
  · exact w_c6
  · exact w_c7
  · exact w_c8
  · exact w_c9
  · exact w_c10
  · exact w_c11
  · exact w_c12
  · exact w_c13
  · exact w_c14
set_option maxRecDepth 65536 in
theorem w_t1 : (words1.take 24).all (fun c => isCode c || c.before args0 about1) = true := by decide +kernel
set_option maxRecDepth 65536 in
theorem w_t2 : ((words1.drop 24).take 24).all (fun c => isCode c || c.before args0 about1) = true := by decide +kernel
set_option maxRecDepth 65536 in
theorem w_t3 : (((words1.drop 24).drop 24).take 24).all (fun c => isCode c || c.before args0 about1) = true := by decide +kernel
set_option maxRecDepth 65536 in
theorem w_t4 : (((words1.drop 24).drop 24).drop 24).all (fun c => isCode c || c.before args0 about1) = true := by decide +kernel
theorem w_tables : (allAtoms (Jvm.Cond.code x code maxLocals ret :: tables_1)).before args0 about1 = true := by
  rw [allAtoms_all]
  show words1.all (fun c => c.before args0 about1) = true
  refine all_split ?_ w_codes
  rw [← List.take_append_drop 24 words1, List.all_append, w_t1, ← List.take_append_drop 24 (words1.drop 24), List.all_append, w_t2, ← List.take_append_drop 24 ((words1.drop 24).drop 24), List.all_append, w_t3, w_t4]
  rfl
set_option maxRecDepth 65536 in
theorem w_case : (Jvm.Cond.and given_1 narrow_1).before args0 about1 = true := by decide +kernel
theorem w_applies : (headSpec (Jvm.Cond.code x code maxLocals ret :: tables_1) room_1).applies x e0.platform about1 = true :=
  (Spec.applies_iff w_frames).mpr ⟨w_running, w_runnable, w_alone, w_named, w_hears, w_ripe, w_room, w_tables⟩
theorem atStart : AtStart classFile x code maxLocals ret World_1 tables_1 room_1 Calls_1 rest_1 Pre_1 launch0 p0 e0 about1 theMethod args0 below0 :=
  ⟨lists_1, trivial, launch0.admits_env _ _ _, launch0.least_env, fairChoices_fair.cas, fairChoices_fair.clock, w_frames, w_args, w_heap, w_applies, trivial, trivial, w_case⟩
end start1
theorem witness_1 : WitnessClaimed_1 := ⟨start1.p0, start1.e0, start1.about1, start1.theMethod, start1.args0, start1.below0, start1.atStart⟩
end Jvm.Pilot.@@N@@
