import JvmDerived
import JvmDerived.Pilot.@@N@@Statement
import JvmDerived.Pilot.@@N@@Code
set_option linter.unusedVariables false
set_option linter.unusedSimpArgs false
namespace Jvm.RoadKit
open Sem ClassFile Op Lib Jvm.Stand Jvm.Free Jvm.LawKit
section New
variable {p : Program} {l : Launch} {e : Env} {R : Room} {s : State} {m : MethodId} {args : Array Value} {below : List Frame} {meth : Method} {c : Code} {T : State} {locs : List Loc} {cells slots : Nat}
theorem retI (X : Stand p l e R s m args below meth c T locs cells slots) (hx : p.tables.exec = Jvm.exec) {pc : Nat} {Ls : Array Slot} {z : Int32} {rest : List Value} (hret : meth.sig.returnType = some .int) (hd : decode c.code pc = .ok (.ireturn, 1)) {fs : List Frame}
    (hl : ∀ (f : JFrame) (acts : List Action), f.method = m → f.locked = none → f.entered = [] → (doReturn e (T.setTop f) acts (some (.int z))).1 = T.setFrames fs) : Steps p.tables e below (T.setTop (mkF m pc Ls (.int z :: rest))) (T.setFrames fs) :=
  retOut X hx hret rfl (Or.inl ⟨rfl, Or.inl rfl, z, rfl⟩) hd hl
theorem retL (X : Stand p l e R s m args below meth c T locs cells slots) (hx : p.tables.exec = Jvm.exec) {pc : Nat} {Ls : Array Slot} {z : Int64} {rest : List Value} (hret : meth.sig.returnType = some .long) (hd : decode c.code pc = .ok (.lreturn, 1)) {fs : List Frame}
    (hl : ∀ (f : JFrame) (acts : List Action), f.method = m → f.locked = none → f.entered = [] → (doReturn e (T.setTop f) acts (some (.long z))).1 = T.setFrames fs) : Steps p.tables e below (T.setTop (mkF m pc Ls (.long z :: rest))) (T.setFrames fs) :=
  retOut X hx hret rfl (Or.inr (Or.inl ⟨rfl, rfl, z, rfl⟩)) hd hl
theorem retA (X : Stand p l e R s m args below meth c T locs cells slots) (hx : p.tables.exec = Jvm.exec) {pc : Nat} {Ls : Array Slot} {w : Value} {t : FieldType} {rest : List Value} (hret : meth.sig.returnType = some t) (ht : t.isReference = true) (hv : w.isRef = true) (hd : decode c.code pc = .ok (.areturn, 1)) {fs : List Frame}
    (hl : ∀ (f : JFrame) (acts : List Action), f.method = m → f.locked = none → f.entered = [] → (doReturn e (T.setTop f) acts (some w)).1 = T.setFrames fs) : Steps p.tables e below (T.setTop (mkF m pc Ls (w :: rest))) (T.setFrames fs) :=
  retOut X hx hret (by cases w <;> first | (simp [Value.isRef] at hv; done) | (cases t <;> first | rfl | (simp [FieldType.isReference] at ht; done))) (Or.inr (Or.inr (Or.inr (Or.inr ⟨rfl, ht, hv⟩)))) hd hl
/-- from here the run comes to an end of which P holds -/
def Go (tb : Tables) (e : Env) (below : List Frame) (P : State → Outcome → Prop) (A : State) : Prop := ∃ s₂ o, Steps tb e below A s₂ ∧ P s₂ o
theorem Go.via {tb : Tables} {e : Env} {below : List Frame} {P : State → Outcome → Prop} {A B : State} (st : ∀ t, Steps tb e below B t → Steps tb e below A t) (g : Go tb e below P B) : Go tb e below P A := by
  obtain ⟨s2, o, h, r⟩ := g
  exact ⟨s2, o, st _ h, r⟩
/-- what a contract says of the end -/
def PQ (s : State) (below : List Frame) (Q : Option Value → Heap → List Loc → Prop) (k n : Nat) (s₂ : State) (o : Outcome) : Prop := s₂.status = .running ∧ Ended s₂ below o ∧ ∃ v L, o = .returned v ∧ Q v s₂.heap L ∧ FrameEnd s o s₂ L k n
theorem Go.leave (X : Stand p l e R s m args below meth c T locs cells slots) (hlk : meth.locks = false) {v : Option Value} (hv : meth.sig.returnType = none → v = none) {A : State} {Q : Option Value → Heap → List Loc → Prop} {k n : Nat}
    (last : ∀ fs : List Frame, (∀ (f : JFrame) (acts : List Action), f.method = m → f.locked = none → f.entered = [] → (doReturn e (T.setTop f) acts v).1 = T.setFrames fs) → Steps p.tables e below A (T.setFrames fs)) (hk : cells ≤ k) (hn : slots ≤ n) (q : Q v T.heap locs) : Go p.tables e below (PQ s below Q k n) A := by
  obtain ⟨fs, hr, hrun, hended, hW, hsame⟩ := X.leave (v := v) hv hlk
  exact ⟨_, _, last fs hr, hrun, hended, _, _, rfl, q, ⟨_, rfl⟩, hW, hsame.mono hk hn⟩
end New
end Jvm.RoadKit
namespace Jvm.RoadKit
open Sem ClassFile Op Lib Jvm.Stand Jvm.Free Jvm.LawKit
section Ary
variable {p : Program} {l : Launch} {e : Env} {R : Room} {s : State} {m : MethodId} {args : Array Value} {below : List Frame} {meth : Method} {c : Code} {T : State} {locs : List Loc} {cells slots : Nat} {Z : State} {h h' : Heap} {a b : Addr} {ty : FieldType} {n : Nat} {f : Nat → Int32}
/-- the array at a: n places, the i-th holds f i -/
def Ary (Z : State) (h : Heap) (a : Addr) (ty : FieldType) (n : Nat) (f : Nat → Int32) : Prop := ∃ c : Cell, Arr Z h a c ty ∧ c.slots.size = n ∧ n < 2 ^ 31 ∧ ∀ i, i < n → c.slots[i]? = some (.int (f i)) ∧ fits ty (.int (f i)) = true
def arrUpd (f : Nat → Int32) (j : Nat) (x : Int32) (i : Nat) : Int32 := if i = j then x else f i
theorem Ary.lt (F : Ary Z h a ty n f) : a < h.size := by obtain ⟨c, A, -⟩ := F; exact A.lt
theorem Ary.ext (F : Ary Z h a ty n f) (E : Ext h h') : Ary Z h' a ty n f := by obtain ⟨c, A, r⟩ := F; exact ⟨c, A.ext E, r⟩
theorem Ary.other {sl : Nat} {v : Value} (F : Ary Z h b ty n f) (W : Wr h h' a sl v) (q : b ≠ a) : Ary Z h' b ty n f := by obtain ⟨c, A, r⟩ := F; exact ⟨c, A.other W q, r⟩
theorem Ary.keep {ws : List Addr} (F : Ary Z h a ty n f) (K : Keep h h' ws) (q : a ∉ ws) : Ary Z h' a ty n f := by obtain ⟨c, A, r⟩ := F; exact ⟨c, ⟨K.2.1 a c A.1 q, A.2⟩, r⟩
theorem Ary.new {k : ClassId} {z : Int32} (A : Arr Z h a (newA k ty z) ty) (q : ¬ z < 0) (hd : defaultValue ty = .int 0) (hf : fits ty (.int 0) = true) : Ary Z h a ty z.toNatClampNeg (fun _ => 0) :=
  ⟨_, A, sz_new _ _ _, (back32 q).2, fun i hi => ⟨by simp [newA, hd, Array.getElem?_replicate, hi], hf⟩⟩
theorem Ary.set {j : Nat} {x : Int32} (F : Ary Z h a ty n f) (W : Wr h h' a j (.int x)) (hv : fits ty (.int x) = true) : Ary Z h' a ty n (arrUpd f j x) := by
  obtain ⟨c, A, S, B, H⟩ := F
  obtain ⟨cell, w1, w2, w3, w4⟩ := id W
  cases w1.symm.trans A.1
  refine ⟨_, A.same W, (sz_set _ _ _).trans S, B, fun i hi => ?_⟩
  have hi' : i < c.slots.size := by rw [S]; exact hi
  unfold arrUpd
  by_cases hj : i = j
  · subst hj
    rw [if_pos rfl]
    exact ⟨by simp [Cell.setSlot, Array.getElem?_setIfInBounds, hi'], hv⟩
  · rw [if_neg hj]
    refine ⟨?_, (H i hi).2⟩
    rw [← (H i hi).1]
    simp [Cell.setSlot, Array.getElem?_setIfInBounds, Ne.symm hj]
theorem aputI {n0 : Nat} {j x : Int32} {g : JFrame} {rest : List Value} (X : Stand p l e R s m args below meth c T locs cells slots) (hx : p.tables.exec = Jvm.exec) (hZ : Z.Warmed39 s.vm) (eT : T.heap = h) (A : Ary Z h a .int n f) (N : Fr n0 locs) (ge : n0 ≤ a) (hj : ¬ j < 0) (hn : j.toNatClampNeg < n)
    (hg : g.method = m) (hs : g.stack = .int x :: .int j :: .ref a :: rest) (hd : decode c.code g.pc = .ok (.iastore, 1)) :
    ∃ T' h' L', Stand p l e R s m args below meth c T' L' cells slots ∧ T'.heap = h' ∧ Fr n0 L' ∧ Wr h h' a j.toNatClampNeg (.int x) ∧ Ary Z h' a .int n (arrUpd f j.toNatClampNeg x) ∧ ∀ target, Steps p.tables e below (T'.setTop { g with pc := g.pc + 1, stack := rest }) target → Steps p.tables e below (T.setTop g) target := by
  obtain ⟨cl, Ar, S, B, H⟩ := id A
  obtain ⟨T', h', X', e', W, st⟩ := stI X hx hZ eT Ar (j := j) (x := x) (by rw [S]; intro q; rcases q with q | q; exact hj q; omega) hg hs hd
  exact ⟨T', h', _, X', e', Fr.snoc X' N ge, W, A.set W rfl, st⟩
theorem aputB {n0 : Nat} {j x : Int32} {g : JFrame} {rest : List Value} (X : Stand p l e R s m args below meth c T locs cells slots) (hx : p.tables.exec = Jvm.exec) (hZ : Z.Warmed39 s.vm) (eT : T.heap = h) (A : Ary Z h a .byte n f) (N : Fr n0 locs) (ge : n0 ≤ a) (hj : ¬ j < 0) (hn : j.toNatClampNeg < n)
    (hg : g.method = m) (hs : g.stack = .int x :: .int j :: .ref a :: rest) (hd : decode c.code g.pc = .ok (.bastore, 1)) :
    ∃ T' h' L', Stand p l e R s m args below meth c T' L' cells slots ∧ T'.heap = h' ∧ Fr n0 L' ∧ Wr h h' a j.toNatClampNeg (.int x.toInt8.toInt32) ∧ Ary Z h' a .byte n (arrUpd f j.toNatClampNeg x.toInt8.toInt32) ∧ ∀ target, Steps p.tables e below (T'.setTop { g with pc := g.pc + 1, stack := rest }) target → Steps p.tables e below (T.setTop g) target := by
  obtain ⟨cl, Ar, S, B, H⟩ := id A
  obtain ⟨T', h', X', e', W, st⟩ := stB X hx hZ eT Ar (j := j) (x := x) (by rw [S]; intro q; rcases q with q | q; exact hj q; omega) hg hs hd
  exact ⟨T', h', _, X', e', Fr.snoc X' N ge, W, A.set W (fits_nar_byte x), st⟩
theorem agetI {j : Int32} {g : JFrame} {rest : List Value} (X : Stand p l e R s m args below meth c T locs cells slots) (hx : p.tables.exec = Jvm.exec) (hZ : Z.Warmed39 s.vm) (eT : T.heap = h) (A : Ary Z h a .int n f) (hj : ¬ j < 0) (hn : j.toNatClampNeg < n)
    (hg : g.method = m) (hs : g.stack = .int j :: .ref a :: rest) (hd : decode c.code g.pc = .ok (.iaload, 1)) (target : State) (k : Steps p.tables e below (T.setTop { g with pc := g.pc + 1, stack := .int (f j.toNatClampNeg) :: rest }) target) : Steps p.tables e below (T.setTop g) target := by
  obtain ⟨cl, Ar, S, B, H⟩ := A
  exact X.iaload hx (j := j) (v := .int (f j.toNatClampNeg)) (by rw [eT]; exact Ar.1) (State.isArrayOf_alike hZ.alike Ar.2.1) Ar.2.2 (by rw [S]; intro q; rcases q with q | q; exact hj q; omega) (H _ hn).1 hg hs hd target k
theorem agetB {j : Int32} {g : JFrame} {rest : List Value} (X : Stand p l e R s m args below meth c T locs cells slots) (hx : p.tables.exec = Jvm.exec) (hZ : Z.Warmed39 s.vm) (eT : T.heap = h) (A : Ary Z h a .byte n f) (hj : ¬ j < 0) (hn : j.toNatClampNeg < n)
    (hg : g.method = m) (hs : g.stack = .int j :: .ref a :: rest) (hd : decode c.code g.pc = .ok (.baload, 1)) (target : State) (k : Steps p.tables e below (T.setTop { g with pc := g.pc + 1, stack := .int (f j.toNatClampNeg) :: rest }) target) : Steps p.tables e below (T.setTop g) target := by
  obtain ⟨cl, Ar, S, B, H⟩ := A
  exact X.baloadBytes hx (j := j) (v := .int (f j.toNatClampNeg)) (by rw [eT]; exact Ar.1) (State.isArrayOf_alike hZ.alike Ar.2.1) Ar.2.2 (by rw [S]; intro q; rcases q with q | q; exact hj q; omega) (H _ hn).1 hg hs hd target k
theorem alen {g : JFrame} {rest : List Value} (X : Stand p l e R s m args below meth c T locs cells slots) (hx : p.tables.exec = Jvm.exec) (hZ : Z.Warmed39 s.vm) (eT : T.heap = h) (A : Ary Z h a ty n f)
    (hg : g.method = m) (hs : g.stack = .ref a :: rest) (hd : decode c.code g.pc = .ok (.arraylength, 1)) (target : State) (k : Steps p.tables e below (T.setTop { g with pc := g.pc + 1, stack := .int n.toInt32 :: rest }) target) : Steps p.tables e below (T.setTop g) target := by
  obtain ⟨cl, Ar, S, B, H⟩ := A
  exact X.arraylength hx (by rw [eT]; exact Ar.1) (State.isArrayOf_alike hZ.alike Ar.2.1) hg hs hd target (by rw [S]; exact k)
end Ary
end Jvm.RoadKit
namespace Jvm.RoadKit
open Sem ClassFile Op Lib Jvm.Stand Jvm.Free Jvm.LawKit
section Ary2
variable {p : Program} {l : Launch} {e : Env} {R : Room} {s : State} {m : MethodId} {args : Array Value} {below : List Frame} {meth : Method} {c : Code} {T : State} {locs : List Loc} {cells slots : Nat} {Z : State} {h h' : Heap} {a b : Addr} {ty : FieldType} {n k : Nat} {f : Nat → Int32}
theorem nat32 {n : Nat} (h : n < 2 ^ 31) : n.toInt32.toNatClampNeg = n ∧ ¬ n.toInt32 < 0 := by
  have q := len_toInt h
  refine ⟨?_, ?_⟩
  · show n.toInt32.toInt.toNat = n
    rw [q]; rfl
  · rw [Int32.lt_iff_toInt_lt, q]
    have : (0 : Int32).toInt = 0 := rfl
    omega
theorem getD_range (f : Nat → Int32) (n i : Nat) : ((List.range n).map fun j => Value.int (f j)).getD i (.int 0) = if i < n then .int (f i) else .int 0 := by
  rw [List.getD_eq_getElem?_getD, List.getElem?_map]
  by_cases hi : i < n
  · rw [List.getElem?_range hi, if_pos hi]; rfl
  · rw [List.getElem?_eq_none (by simpa using hi), if_neg hi]; rfl
theorem Ary.arv (A : Ary Z h a ty n f) : ∃ k, Arv Z h a k ty n.toInt32 ((List.range n).map fun j => Value.int (f j)) (.int 0) := by
  obtain ⟨c, Ar, S, B, H⟩ := A
  have q := nat32 B
  refine ⟨c.cls, c, Ar, rfl, by rw [q.1]; exact S, q.2, fun i hi => ?_, fun i hi => ?_⟩
  · rw [getD_range, if_pos (S ▸ hi)]; exact (H i (S ▸ hi)).1
  · rw [getD_range, if_pos (S ▸ hi)]; exact (H i (S ▸ hi)).2
theorem Arv.ary {kc : ClassId} {z : Int32} {vs : List Value} {dv : Value} {g : Nat → Int32} (V : Arv Z h a kc ty z vs dv) (hz : z.toNatClampNeg = n) (hg : ∀ i, i < n → vs.getD i dv = .int (g i)) : Ary Z h a ty n g := by
  obtain ⟨c, Ar, -, S, q, H, G⟩ := V
  rw [hz] at S
  refine ⟨c, Ar, S, by rw [← hz]; exact (back32 q).2, fun i hi => ?_⟩
  have h1 := H i (S ▸ hi)
  have h2 := G i (S ▸ hi)
  rw [hg i hi] at h1 h2
  exact ⟨h1, h2⟩
theorem acopy {n0 W : Nat} {q : Int32} {g : JFrame} {rest : List Value} {a0 : Array Value} {own : String} {index : Nat} (X : Stand p l e R s m args below meth c T locs cells slots) (hx : p.tables.exec = Jvm.exec) (hZ : Z.Warmed39 s.vm) (hown : s.vm.findClass own = some m.cls)
    (w1 : (Cond.methodLink own index Jvm.Stand.acN).before a0 Z = true) (w2 : (Cond.native Jvm.Stand.acN).before a0 Z = true) (w3 : (Cond.static Jvm.Stand.acN).before a0 Z = true) (w4 : (Cond.initialized "java/lang/System").before a0 Z = true) (eT : T.heap = h)
    (A : Ary Z h a ty n f) (B : Ary Z h b ty k (fun _ => 0)) (hty : refKind ty = false) (hq : ¬ q < 0) (hn : q.toNatClampNeg ≤ n) (hk : q.toNatClampNeg ≤ k) (N : Fr n0 locs) (ge : n0 ≤ b)
    (hg : g.method = m) (hsize : g.locals.size = c.maxLocals) (hs : g.stack = .int q :: .int 0 :: .ref b :: .int 0 :: .ref a :: rest) (hd : decode c.code g.pc = .ok (.invokestatic index, 3))
    (hf : 1 ≤ R.frames) (hW : 2 * g.monitorRoom + (rest.map fun v => v.category).sum ≤ W) (hlo : W + (nativeFrameWords "java/lang/System" "arraycopy" 5 + 11) ≤ R.locals) :
    ∃ T' h' L, Stand p l e R s m args below meth c T' L cells slots ∧ T'.heap = h' ∧ Fr n0 L ∧ Keep h h' [b] ∧ Ary Z h' b ty k (fun i => if i < q.toNatClampNeg then f i else 0) ∧
      ∀ target, Steps p.tables e below (T'.setTop { g with pc := g.pc + 3, stack := rest }) target → Steps p.tables e below (T.setTop g) target := by
  obtain ⟨ka, A'⟩ := A.arv
  obtain ⟨kb, B'⟩ := B.arv
  have na : n < 2 ^ 31 := by obtain ⟨_, _, _, u, _⟩ := A; exact u
  have nk : k < 2 ^ 31 := by obtain ⟨_, _, _, u, _⟩ := B; exact u
  have z0 : (0 : Int32).toNatClampNeg = 0 := rfl
  obtain ⟨T', h', L, X', e', N', K, V, st⟩ := cpA X hx hZ hown w1 w2 w3 w4 eT A' B' (Or.inl ⟨rfl, hty⟩) (sp := 0) (dp := 0) (nn := q) (by decide) (by decide) hq (by rw [z0, (nat32 na).1]; omega) (by rw [z0, (nat32 nk).1]; omega) rfl (by rw [z0, List.length_map, List.length_range]; omega) N ge hg hsize hs hd hf hW hlo
  refine ⟨T', h', L, X', e', N', K, V.ary (nat32 nk).1 fun i hi => ?_, st⟩
  rw [z0, List.take_zero, List.nil_append, Nat.zero_add, List.getD_eq_getElem?_getD]
  by_cases hi' : i < q.toNatClampNeg
  · rw [if_pos hi', List.getElem?_append_left (by rw [List.length_map, List.length_range]; exact hi'), List.getElem?_map, List.getElem?_range hi']
    show (((List.range n).map fun j => Value.int (f j)).getD (0 + i) (.int 0)) = _
    rw [Nat.zero_add, getD_range, if_pos (by omega)]
  · rw [if_neg hi', List.getElem?_append_right (by rw [List.length_map, List.length_range]; omega), List.length_map, List.length_range, List.getElem?_drop, List.getElem?_map, List.getElem?_range (by omega)]
    rfl
end Ary2
end Jvm.RoadKit
namespace Jvm.Pilot.@@N@@
open Jvm Jvm.ClassFile Sem Op Lib Jvm.Free Jvm.Stand Jvm.LawKit Jvm.RoadKit Bundle Jvm.Pilot.@@N@@.Jvm.D

theorem pd0 : parseMethodDescriptor "(II)I" = some ⟨[.int, .int], some .int⟩ := by decide +kernel
theorem pd1 : parseMethodDescriptor "([BI)[B" = some ⟨[(.array .byte), .int], some (.array .byte)⟩ := by decide +kernel
theorem pd2 : parseMethodDescriptor "(I)V" = some ⟨[.int], none⟩ := by decide +kernel
theorem pd3 : parseMethodDescriptor "(II)V" = some ⟨[.int, .int], none⟩ := by decide +kernel
theorem pd4 : parseMethodDescriptor "()I" = some ⟨[], some .int⟩ := by decide +kernel
theorem pd5 : parseMethodDescriptor "()[B" = some ⟨[], some (.array .byte)⟩ := by decide +kernel
theorem pd6 : parseMethodDescriptor "([B)J" = some ⟨[(.array .byte)], some .long⟩ := by decide +kernel
theorem own_sel {s : State} {args : Array Value} {C : String} {y0 y : MethodName} (w : (Cond.selects C y0 y0).before args s = true) (hc : y.cls = y0.cls) (hp : (Cond.privateMethod y).before args s = true) (hi : (Cond.instanceMethod y).before args s = true) (hy : y.cls ≠ "java/lang/invoke/MethodHandle" ∧ y.cls ≠ "java/lang/invoke/VarHandle") : (Cond.selects y.cls y y).before args s = true := by
  obtain ⟨c2, r2, m2, -, -, q3, -, kP, hkP, hkPi⟩ := Cond.selects_spec w
  exact selects_self_of_private (by rw [hc]; exact findClass_of_methodNamed q3) hkP hkPi (Cond.privateMethod_at hp) hi hy
/-- the writer at a: its bytes lie at r, n of them, f; its size is z -/
def BP (Z : State) (h : Heap) (a r : Addr) (n : Nat) (f : Nat → Int32) (z : Int32) : Prop := Exa Z h a "com/example/bytewright/bytewright/classfile/ByteWriter" ∧ Fld Z h a "com/example/bytewright/bytewright/classfile/ByteWriter" "bytes" "[B" (.ref r) ∧ Fld Z h a "com/example/bytewright/bytewright/classfile/ByteWriter" "size" "I" (.int z) ∧ Ary Z h r .byte n f ∧ a ≠ r
theorem BP.put_size {Z : State} {a0 : Array Value} (hw : ∀ d ∈ tables_1, d.before a0 Z = true) {h h1 : Heap} {a r : Addr} {n : Nat} {f : Nat → Int32} {z q : Int32} (H : BP Z h a r n f z) (W : Wr h h1 a (Jvm.RoadKit.slotOf Z "com/example/bytewright/bytewright/classfile/ByteWriter" "size" "I") (.int q)) : BP Z h1 a r n f q :=
  ⟨H.1.wr W, H.2.1.other W (Or.inr (slot_ne (Or.inl (hw _ (List.mem_of_getElem? (i := 11) rfl))) (Or.inl (hw _ (List.mem_of_getElem? (i := 22) rfl))) (by decide) (t := (.array .byte)) (t' := .int) (by decide) (by decide))), H.2.2.1.same W, H.2.2.2.1.other W (Ne.symm H.2.2.2.2), H.2.2.2.2⟩
theorem BP.store {Z : State} {h h1 : Heap} {a r : Addr} {n : Nat} {f g : Nat → Int32} {z : Int32} {j : Nat} {v : Value} (H : BP Z h a r n f z) (W : Wr h h1 r j v) (A : Ary Z h1 r .byte n g) : BP Z h1 a r n g z :=
  ⟨H.1.wr W, H.2.1.other W (Or.inl H.2.2.2.2), H.2.2.1.other W (Or.inl H.2.2.2.2), A, H.2.2.2.2⟩
theorem BP.at {Z : State} {h h1 : Heap} {a r : Addr} {n : Nat} {f : Nat → Int32} {z : Int32} (e : h1 = h) (H : BP Z h a r n f z) : BP Z h1 a r n f z := by subst e; exact H
theorem BP.ge {Z : State} {h : Heap} {a r : Addr} {n : Nat} {f : Nat → Int32} {z : Int32} {n0 : Nat} (H : BP Z h a r n f z) (g : n0 ≤ a) : n0 ≤ h.size := Nat.le_of_lt (Nat.lt_of_le_of_lt g H.1.lt)
theorem own_i {x y : Int32} (h : x.toInt = y.toInt) : x = y := Int32.toInt_inj.mp h
theorem own_i8 (x : Int32) : x.toInt8.toInt32.toInt8.toInt32 = x.toInt8.toInt32 := by rw [Int8.toInt8_toInt32]
theorem own_small {x : Int32} {k : Nat} (h0 : 0 ≤ x.toInt) (h1 : x.toInt ≤ 100) (hk : k ≤ 100) : (x + k.toInt32).toInt = x.toInt + k := by
  have a := c_iadd x k.toInt32
  have b := len_toInt (n := k) (by omega)
  have r := rng32 (x + k.toInt32)
  omega
theorem own_nat {x : Int32} (h0 : 0 ≤ x.toInt) : ¬ x < 0 ∧ (x.toNatClampNeg : Int) = x.toInt := by
  have e0 : (0 : Int32).toInt = 0 := rfl
  refine ⟨by rw [Int32.lt_iff_toInt_lt, e0]; omega, ?_⟩
  show ((x.toInt.toNat : Nat) : Int) = x.toInt
  omega
theorem own_congr {Z : State} {h : Heap} {a : Addr} {ty : FieldType} {n : Nat} {f g : Nat → Int32} (A : Ary Z h a ty n f) (q : ∀ i, i < n → f i = g i) : Ary Z h a ty n g := by
  obtain ⟨c, Ar, S, B, H⟩ := A
  exact ⟨c, Ar, S, B, fun i hi => by rw [← q i hi]; exact H i hi⟩
def own_byte (v : Int32) (k : Nat) : Int32 := if k = 0 then ((v.toUInt32 >>> ((24 : Int32) &&& 31).toUInt32).toInt32).toInt8.toInt32 else if k = 1 then ((v.toUInt32 >>> ((16 : Int32) &&& 31).toUInt32).toInt32).toInt8.toInt32 else if k = 2 then ((v.toUInt32 >>> ((8 : Int32) &&& 31).toUInt32).toInt32).toInt8.toInt32 else v.toInt8.toInt32
theorem own_four0 (f : Nat → Int32) (x0 x1 x2 x3 : Int32) (j i : Nat) : arrUpd (arrUpd (arrUpd (arrUpd f j x0) (j + 1) x1) (j + 2) x2) (j + 3) x3 i = if i < j then f i else if i < j + 4 then (if i - j = 0 then x0 else if i - j = 1 then x1 else if i - j = 2 then x2 else x3) else f i := by
  unfold arrUpd
  by_cases h1 : i < j
  · rw [if_neg (by omega), if_neg (by omega), if_neg (by omega), if_neg (by omega), if_pos h1]
  · rw [if_neg h1]
    by_cases h2 : i < j + 4
    · rw [if_pos h2]
      have h3 : i = j ∨ i = j + 1 ∨ i = j + 2 ∨ i = j + 3 := by omega
      rcases h3 with h | h | h | h
      · rw [if_neg (by omega), if_neg (by omega), if_neg (by omega), if_pos h, if_pos (by omega)]
      · rw [if_neg (by omega), if_neg (by omega), if_pos h, if_neg (by omega), if_pos (by omega)]
      · rw [if_neg (by omega), if_pos h, if_neg (by omega), if_neg (by omega), if_pos (by omega)]
      · rw [if_pos h, if_neg (by omega), if_neg (by omega), if_neg (by omega)]
    · rw [if_neg h2, if_neg (by omega), if_neg (by omega), if_neg (by omega), if_neg (by omega)]
theorem own_four (f : Nat → Int32) (v : Int32) (j i : Nat) : arrUpd (arrUpd (arrUpd (arrUpd f j ((v.toUInt32 >>> ((24 : Int32) &&& 31).toUInt32).toInt32).toInt8.toInt32) (j + 1) ((v.toUInt32 >>> ((16 : Int32) &&& 31).toUInt32).toInt32).toInt8.toInt32) (j + 2) ((v.toUInt32 >>> ((8 : Int32) &&& 31).toUInt32).toInt32).toInt8.toInt32) (j + 3) v.toInt8.toInt32 i = if i < j then f i else if i < j + 4 then own_byte v (i - j) else f i := own_four0 f _ _ _ _ j i
theorem own_fourK (f : Nat → Int32) (v : Int32) (j k : Nat) (hk : k < 4) : arrUpd (arrUpd (arrUpd (arrUpd f j ((v.toUInt32 >>> ((24 : Int32) &&& 31).toUInt32).toInt32).toInt8.toInt32) (j + 1) ((v.toUInt32 >>> ((16 : Int32) &&& 31).toUInt32).toInt32).toInt8.toInt32) (j + 2) ((v.toUInt32 >>> ((8 : Int32) &&& 31).toUInt32).toInt32).toInt8.toInt32) (j + 3) v.toInt8.toInt32 (j + k) = own_byte v k := by
  rw [own_four, if_neg (by omega), if_pos (by omega), Nat.add_sub_cancel_left]
def DC0 (f : Nat → Int32) : Int64 := ((0 : Int64) ||| ((((f 0) &&& (255 : Int32)).toInt64) <<< ((56 : Int32) &&& 0x3f).toInt64))
def DC1 (f : Nat → Int32) : Int64 := ((DC0 f) ||| ((((f 1) &&& (255 : Int32)).toInt64) <<< ((48 : Int32) &&& 0x3f).toInt64))
def DC2 (f : Nat → Int32) : Int64 := ((DC1 f) ||| ((((f 2) &&& (255 : Int32)).toInt64) <<< ((40 : Int32) &&& 0x3f).toInt64))
def DC3 (f : Nat → Int32) : Int64 := ((DC2 f) ||| ((((f 3) &&& (255 : Int32)).toInt64) <<< ((32 : Int32) &&& 0x3f).toInt64))
def DC4 (f : Nat → Int32) : Int64 := ((DC3 f) ||| ((((f 4) &&& (255 : Int32)).toInt64) <<< ((24 : Int32) &&& 0x3f).toInt64))
def DC5 (f : Nat → Int32) : Int64 := ((DC4 f) ||| ((((f 5) &&& (255 : Int32)).toInt64) <<< ((16 : Int32) &&& 0x3f).toInt64))
def DC6 (f : Nat → Int32) : Int64 := ((DC5 f) ||| ((((f 6) &&& (255 : Int32)).toInt64) <<< ((8 : Int32) &&& 0x3f).toInt64))
def DC7 (f : Nat → Int32) : Int64 := ((DC6 f) ||| (((f 7) &&& (255 : Int32)).toInt64))
def DEC (f : Nat → Int32) : Int64 := DC7 f
def PP (x : Int32) : Int32 := (x &&& (2147483647 : Int32)) % (5 : Int32)
theorem own_pp (x : Int32) : 0 ≤ (PP x).toInt ∧ (PP x).toInt ≤ 4 := by
  have h := c_and x (2147483647 : Int32) (by decide)
  have h2 : (PP x).toInt = (x &&& (2147483647 : Int32)).toInt % 5 := (c_irem (x &&& (2147483647 : Int32)) (5 : Int32) 5 rfl).1 h.1
  omega
def EXPV (p1 p2 p4 pp : Int32) : Int64 := (((((p1.toInt64) <<< ((32 : Int32) &&& 0x3f).toInt64) ||| ((p2.toInt64) &&& (4294967295 : Int64))) &&& (((4294967295 : Int64) <<< (((8 : Int32) * ((4 : Int32) - pp)) &&& 0x3f).toInt64) ^^^ (-1 : Int64))) ||| (((p4.toInt64) &&& (4294967295 : Int64)) <<< (((8 : Int32) * ((4 : Int32) - pp)) &&& 0x3f).toInt64))
def U (v : Int64) : Nat := v.toBitVec.toNat
theorem u_lt (v : Int64) : U v < 18446744073709551616 := v.toBitVec.isLt
theorem u_mod (v : Int64) : ((U v : Nat) : Int) = v.toInt % 18446744073709551616 := by
  have e : v.toInt = v.toBitVec.toInt := rfl
  have l := u_lt v
  rw [e, BitVec.toInt_eq_toNat_cond]
  unfold U at *
  split <;> omega
theorem u_inj {v w : Int64} (h : U v = U w) : v = w := Int64.toBitVec_inj.mp (BitVec.eq_of_toNat_eq h)
theorem u_and (a b : Int64) : U (a &&& b) = U a &&& U b := by unfold U; rw [Int64.toBitVec_and, BitVec.toNat_and]
theorem u_or (a b : Int64) : U (a ||| b) = U a ||| U b := by unfold U; rw [Int64.toBitVec_or, BitVec.toNat_or]
theorem n_and (m a b c d : Nat) (ha : a < 2 ^ m) (hc : c < 2 ^ m) : (a + 2 ^ m * b) &&& (c + 2 ^ m * d) = (a &&& c) + 2 ^ m * (b &&& d) := by
  have hac : a &&& c < 2 ^ m := Nat.lt_of_le_of_lt Nat.and_le_left ha
  apply Nat.eq_of_testBit_eq
  intro i
  rw [Nat.testBit_and, Nat.add_comm a, Nat.add_comm c, Nat.add_comm (a &&& c), Nat.testBit_two_pow_mul_add _ ha, Nat.testBit_two_pow_mul_add _ hc, Nat.testBit_two_pow_mul_add _ hac]
  split
  · rw [Nat.testBit_and]
  · rw [Nat.testBit_and]
theorem n_or (m a b c d : Nat) (ha : a < 2 ^ m) (hc : c < 2 ^ m) : (a + 2 ^ m * b) ||| (c + 2 ^ m * d) = (a ||| c) + 2 ^ m * (b ||| d) := by
  have hac : a ||| c < 2 ^ m := Nat.or_lt_two_pow ha hc
  apply Nat.eq_of_testBit_eq
  intro i
  rw [Nat.testBit_or, Nat.add_comm a, Nat.add_comm c, Nat.add_comm (a ||| c), Nat.testBit_two_pow_mul_add _ ha, Nat.testBit_two_pow_mul_add _ hc, Nat.testBit_two_pow_mul_add _ hac]
  split
  · rw [Nat.testBit_or]
  · rw [Nat.testBit_or]
/-- a multiple of 2^m, or something below it -/
theorem n_or0 (m x b : Nat) (hb : b < 2 ^ m) : (2 ^ m * x) ||| b = b + 2 ^ m * x := by
  have h := n_or m 0 x b 0 (Nat.two_pow_pos m) hb
  rw [Nat.zero_add, Nat.mul_zero, Nat.add_zero, Nat.zero_or, Nat.or_zero] at h
  exact h
/-- an int by its low byte, laid at a shift -/
theorem u_piece (x : Int32) (q : Int32) (k : Nat) (hk : q.toBitVec.toNat % 64 = k) (B : Nat) (hB : (x &&& (255 : Int32)).toInt = B) (P : Nat) (hP : 2 ^ k = P) (hPb : P ≤ 72057594037927936) (hB2 : B ≤ 255) : U (((x &&& (255 : Int32)).toInt64) <<< (q &&& 0x3f).toInt64) = P * B := by
  have h := c_lshl ((x &&& (255 : Int32)).toInt64) q k hk
  rw [c_i2l, hB, hP] at h
  have a := u_mod (((x &&& (255 : Int32)).toInt64) <<< (q &&& 0x3f).toInt64)
  have hm : B * P ≤ 255 * 72057594037927936 := Nat.mul_le_mul hB2 hPb
  have e : ((B * P : Nat) : Int) = (B : Int) * (P : Int) := Int.natCast_mul B P
  rw [← e] at h
  rw [Nat.mul_comm P B]
  omega
theorem u_low (x : Int32) (B : Nat) (hB : (x &&& (255 : Int32)).toInt = B) : U ((x &&& (255 : Int32)).toInt64) = B := by
  have a := u_mod ((x &&& (255 : Int32)).toInt64)
  rw [c_i2l, hB] at a
  have := rng32 (x &&& (255 : Int32))
  omega
set_option maxHeartbeats 4000000 in
theorem u_dec (f : Nat → Int32) (b0 b1 b2 b3 b4 b5 b6 b7 : Nat) (h0 : (f 0 &&& (255 : Int32)).toInt = b0) (h1 : (f 1 &&& (255 : Int32)).toInt = b1) (h2 : (f 2 &&& (255 : Int32)).toInt = b2) (h3 : (f 3 &&& (255 : Int32)).toInt = b3) (h4 : (f 4 &&& (255 : Int32)).toInt = b4) (h5 : (f 5 &&& (255 : Int32)).toInt = b5) (h6 : (f 6 &&& (255 : Int32)).toInt = b6) (h7 : (f 7 &&& (255 : Int32)).toInt = b7) :
    U (DEC f) = b7 + 256 * (b6 + 256 * (b5 + 256 * (b4 + 256 * (b3 + 256 * (b2 + 256 * (b1 + 256 * b0)))))) := by
  have r : ∀ (x : Int32) (B : Nat), (x &&& (255 : Int32)).toInt = B → B ≤ 255 := fun x B h => by
    have c := c_and x (255 : Int32) (by decide)
    have e : (255 : Int32).toInt = 255 := rfl
    omega
  have q0 := u_piece (f 0) (56 : Int32) 56 (by decide) b0 h0 72057594037927936 (by decide) (by decide) (r _ _ h0)
  have q1 := u_piece (f 1) (48 : Int32) 48 (by decide) b1 h1 281474976710656 (by decide) (by decide) (r _ _ h1)
  have q2 := u_piece (f 2) (40 : Int32) 40 (by decide) b2 h2 1099511627776 (by decide) (by decide) (r _ _ h2)
  have q3 := u_piece (f 3) (32 : Int32) 32 (by decide) b3 h3 4294967296 (by decide) (by decide) (r _ _ h3)
  have q4 := u_piece (f 4) (24 : Int32) 24 (by decide) b4 h4 16777216 (by decide) (by decide) (r _ _ h4)
  have q5 := u_piece (f 5) (16 : Int32) 16 (by decide) b5 h5 65536 (by decide) (by decide) (r _ _ h5)
  have q6 := u_piece (f 6) (8 : Int32) 8 (by decide) b6 h6 256 (by decide) (by decide) (r _ _ h6)
  have q7 := u_low (f 7) b7 h7
  have r0 := r _ _ h0; have r1 := r _ _ h1; have r2 := r _ _ h2; have r3 := r _ _ h3; have r4 := r _ _ h4; have r5 := r _ _ h5; have r6 := r _ _ h6; have r7 := r _ _ h7
  have u0 : U (0 : Int64) = 0 := rfl
  have d0 : U (DC0 f) = 72057594037927936 * b0 := by
    have ek : DC0 f = (0 : Int64) ||| (((f 0 &&& (255 : Int32)).toInt64) <<< ((56 : Int32) &&& 0x3f).toInt64) := rfl
    rw [ek, u_or, u0, Nat.zero_or, q0]
  have d1 : U (DC1 f) = 281474976710656 * (b1 + 256 * b0) := by
    have ek : DC1 f = DC0 f ||| (((f 1 &&& (255 : Int32)).toInt64) <<< ((48 : Int32) &&& 0x3f).toInt64) := rfl
    rw [ek, u_or, d0, q1]
    have h := n_or0 56 b0 (281474976710656 * b1) (by omega)
    have e : (2 ^ 56 : Nat) = 72057594037927936 := by decide
    rw [e] at h; rw [h]; omega
  have d2 : U (DC2 f) = 1099511627776 * (b2 + 256 * (b1 + 256 * b0)) := by
    have ek : DC2 f = DC1 f ||| (((f 2 &&& (255 : Int32)).toInt64) <<< ((40 : Int32) &&& 0x3f).toInt64) := rfl
    rw [ek, u_or, d1, q2]
    have h := n_or0 48 (b1 + 256 * b0) (1099511627776 * b2) (by omega)
    have e : (2 ^ 48 : Nat) = 281474976710656 := by decide
    rw [e] at h; rw [h]; omega
  have d3 : U (DC3 f) = 4294967296 * (b3 + 256 * (b2 + 256 * (b1 + 256 * b0))) := by
    have ek : DC3 f = DC2 f ||| (((f 3 &&& (255 : Int32)).toInt64) <<< ((32 : Int32) &&& 0x3f).toInt64) := rfl
    rw [ek, u_or, d2, q3]
    have h := n_or0 40 (b2 + 256 * (b1 + 256 * b0)) (4294967296 * b3) (by omega)
    have e : (2 ^ 40 : Nat) = 1099511627776 := by decide
    rw [e] at h; rw [h]; omega
  have d4 : U (DC4 f) = 16777216 * (b4 + 256 * (b3 + 256 * (b2 + 256 * (b1 + 256 * b0)))) := by
    have ek : DC4 f = DC3 f ||| (((f 4 &&& (255 : Int32)).toInt64) <<< ((24 : Int32) &&& 0x3f).toInt64) := rfl
    rw [ek, u_or, d3, q4]
    have h := n_or0 32 (b3 + 256 * (b2 + 256 * (b1 + 256 * b0))) (16777216 * b4) (by omega)
    have e : (2 ^ 32 : Nat) = 4294967296 := by decide
    rw [e] at h; rw [h]; omega
  have d5 : U (DC5 f) = 65536 * (b5 + 256 * (b4 + 256 * (b3 + 256 * (b2 + 256 * (b1 + 256 * b0))))) := by
    have ek : DC5 f = DC4 f ||| (((f 5 &&& (255 : Int32)).toInt64) <<< ((16 : Int32) &&& 0x3f).toInt64) := rfl
    rw [ek, u_or, d4, q5]
    have h := n_or0 24 (b4 + 256 * (b3 + 256 * (b2 + 256 * (b1 + 256 * b0)))) (65536 * b5) (by omega)
    have e : (2 ^ 24 : Nat) = 16777216 := by decide
    rw [e] at h; rw [h]; omega
  have d6 : U (DC6 f) = 256 * (b6 + 256 * (b5 + 256 * (b4 + 256 * (b3 + 256 * (b2 + 256 * (b1 + 256 * b0)))))) := by
    have ek : DC6 f = DC5 f ||| (((f 6 &&& (255 : Int32)).toInt64) <<< ((8 : Int32) &&& 0x3f).toInt64) := rfl
    rw [ek, u_or, d5, q6]
    have h := n_or0 16 (b5 + 256 * (b4 + 256 * (b3 + 256 * (b2 + 256 * (b1 + 256 * b0))))) (256 * b6) (by omega)
    have e : (2 ^ 16 : Nat) = 65536 := by decide
    rw [e] at h; rw [h]; omega
  have ek : DEC f = DC6 f ||| ((f 7 &&& (255 : Int32)).toInt64) := rfl
  rw [ek, u_or, d6, q7]
  have h := n_or0 8 (b6 + 256 * (b5 + 256 * (b4 + 256 * (b3 + 256 * (b2 + 256 * (b1 + 256 * b0)))))) b7 (by omega)
  have e : (2 ^ 8 : Nat) = 256 := by decide
  rw [e] at h; rw [h]
/-- an int's unsigned value -/
def V32 (v : Int32) : Nat := (v.toInt % 4294967296).toNat
theorem v32 (v : Int32) : ((V32 v : Nat) : Int) = v.toInt % 4294967296 ∧ V32 v < 4294967296 := by unfold V32; omega
theorem ob (v : Int32) (k : Nat) (hk : k < 4) : (own_byte v k &&& (255 : Int32)).toInt = ((V32 v / 2 ^ (24 - 8 * k) % 256 : Nat) : Int) := by
  have hm : ∀ x : Int32, (x &&& (255 : Int32)).toInt = x.toInt % 256 := fun x => c_mask x (255 : Int32) 8 (by decide) (by decide)
  have hv := v32 v
  rw [hm]
  have h4 : k = 0 ∨ k = 1 ∨ k = 2 ∨ k = 3 := by omega
  rcases h4 with rfl | rfl | rfl | rfl
  · have a := c_iushr v (24 : Int32) 24 (by decide) (by decide)
    have b := (c_i2b ((v.toUInt32 >>> ((24 : Int32) &&& 31).toUInt32).toInt32)).1
    have e : own_byte v 0 = ((v.toUInt32 >>> ((24 : Int32) &&& 31).toUInt32).toInt32).toInt8.toInt32 := rfl
    rw [e]
    have p : ((2 ^ 24 : Nat) : Int) = 16777216 := by decide
    have p' : 2 ^ (24 - 8 * 0) = 16777216 := by decide
    rw [p] at a; rw [p']
    omega
  · have a := c_iushr v (16 : Int32) 16 (by decide) (by decide)
    have b := (c_i2b ((v.toUInt32 >>> ((16 : Int32) &&& 31).toUInt32).toInt32)).1
    have e : own_byte v 1 = ((v.toUInt32 >>> ((16 : Int32) &&& 31).toUInt32).toInt32).toInt8.toInt32 := rfl
    rw [e]
    have p : ((2 ^ 16 : Nat) : Int) = 65536 := by decide
    have p' : 2 ^ (24 - 8 * 1) = 65536 := by decide
    rw [p] at a; rw [p']
    omega
  · have a := c_iushr v (8 : Int32) 8 (by decide) (by decide)
    have b := (c_i2b ((v.toUInt32 >>> ((8 : Int32) &&& 31).toUInt32).toInt32)).1
    have e : own_byte v 2 = ((v.toUInt32 >>> ((8 : Int32) &&& 31).toUInt32).toInt32).toInt8.toInt32 := rfl
    rw [e]
    have p : ((2 ^ 8 : Nat) : Int) = 256 := by decide
    have p' : 2 ^ (24 - 8 * 2) = 256 := by decide
    rw [p] at a; rw [p']
    omega
  · have b := (c_i2b v).1
    have e : own_byte v 3 = v.toInt8.toInt32 := rfl
    rw [e]
    have p' : 2 ^ (24 - 8 * 3) = 1 := by decide
    rw [p', Nat.div_one]
    omega
theorem u_mask (x : Int32) : U (x.toInt64 &&& (4294967295 : Int64)) = V32 x := by
  have a := u_mod (x.toInt64 &&& (4294967295 : Int64))
  have m := c_maskL x.toInt64 (4294967295 : Int64) 32 (by decide) (by decide)
  have p : ((2 ^ 32 : Nat) : Int) = 4294967296 := by decide
  rw [c_i2l, p] at m
  have := v32 x
  omega
theorem u_before (p1 p2 : Int32) : U ((p1.toInt64 <<< ((32 : Int32) &&& 0x3f).toInt64) ||| (p2.toInt64 &&& (4294967295 : Int64))) = V32 p2 + 4294967296 * V32 p1 := by
  have a := u_mod (p1.toInt64 <<< ((32 : Int32) &&& 0x3f).toInt64)
  have l := c_lshl p1.toInt64 (32 : Int32) 32 (by decide)
  have p : ((2 ^ 32 : Nat) : Int) = 4294967296 := by decide
  rw [c_i2l, p] at l
  have h1 := v32 p1
  have h2 := v32 p2
  have u : U (p1.toInt64 <<< ((32 : Int32) &&& 0x3f).toInt64) = 4294967296 * V32 p1 := by omega
  rw [u_or, u, u_mask]
  have h := n_or0 32 (V32 p1) (V32 p2) (by have e : (2 ^ 32 : Nat) = 4294967296 := by decide
                                           omega)
  have e : (2 ^ 32 : Nat) = 4294967296 := by decide
  rw [e] at h
  exact h
/-- the bytes from s up, 32 bits of them, give way to V -/
theorem u_exp (p1 p2 p4 : Int32) (M : Int64) (q : Int32) (s : Nat) (S : Nat) (hS : 2 ^ s = S) (hs : q.toBitVec.toNat % 64 = s) (c : Nat) (hM : U M = (S - 1) + S * (0 + 4294967296 * c)) (lo mid hi : Nat) (hsp : V32 p2 + 4294967296 * V32 p1 = lo + S * (mid + 4294967296 * hi)) (hlo : lo < S) (hmid : mid < 4294967296) (hc : hi &&& c = hi) (hS1 : 1 ≤ S) (hSb : S ≤ 4294967296) :
    U ((((p1.toInt64 <<< ((32 : Int32) &&& 0x3f).toInt64) ||| (p2.toInt64 &&& (4294967295 : Int64))) &&& M) ||| ((p4.toInt64 &&& (4294967295 : Int64)) <<< (q &&& 0x3f).toInt64)) = lo + S * (V32 p4 + 4294967296 * hi) := by
  have e : (2 ^ 32 : Nat) = 4294967296 := by decide
  have h4 := v32 p4
  have a1 : U (((p1.toInt64 <<< ((32 : Int32) &&& 0x3f).toInt64) ||| (p2.toInt64 &&& (4294967295 : Int64))) &&& M) = lo + S * (0 + 4294967296 * hi) := by
    rw [u_and, u_before, hM, hsp, ← hS]
    have hS' : 2 ^ s = S := hS
    rw [n_and s _ _ _ _ (by rw [hS']; exact hlo) (by omega)]
    have k1 : lo &&& (2 ^ s - 1) = lo := by rw [Nat.and_two_pow_sub_one_eq_mod, Nat.mod_eq_of_lt (by rw [hS']; exact hlo)]
    have k2 : (mid + 4294967296 * hi) &&& (0 + 4294967296 * c) = 0 + 4294967296 * hi := by
      have h := n_and 32 mid hi 0 c (by rw [e]; exact hmid) (by decide)
      rw [e, Nat.and_zero, hc] at h
      exact h
    rw [k1, k2]
  have a2 : U ((p4.toInt64 &&& (4294967295 : Int64)) <<< (q &&& 0x3f).toInt64) = 0 + S * (V32 p4 + 4294967296 * 0) := by
    have l := c_lshl (p4.toInt64 &&& (4294967295 : Int64)) q s hs
    have m := c_maskL p4.toInt64 (4294967295 : Int64) 32 (by decide) (by decide)
    have p : ((2 ^ 32 : Nat) : Int) = 4294967296 := by decide
    rw [c_i2l, p, ← h4.1] at m
    rw [m, hS] at l
    have a := u_mod ((p4.toInt64 &&& (4294967295 : Int64)) <<< (q &&& 0x3f).toInt64)
    have hb : V32 p4 * S ≤ 4294967295 * 4294967296 := Nat.mul_le_mul (by omega) hSb
    have ee : ((V32 p4 * S : Nat) : Int) = (V32 p4 : Int) * (S : Int) := Int.natCast_mul _ _
    rw [← ee] at l
    rw [Nat.mul_zero, Nat.add_zero, Nat.zero_add, Nat.mul_comm S]
    omega
  rw [u_or, a1, a2, ← hS]
  have hS' : 2 ^ s = S := hS
  rw [n_or s _ _ _ _ (by rw [hS']; exact hlo) (Nat.two_pow_pos s), Nat.or_zero]
  have h := n_or 32 0 hi (V32 p4) 0 (by decide) (by rw [e]; exact h4.2)
  rw [e, Nat.zero_or, Nat.or_zero] at h
  rw [h]
theorem ob4 (v : Int32) : ∃ c0 c1 c2 c3 : Nat, c0 < 256 ∧ c1 < 256 ∧ c2 < 256 ∧ c3 < 256 ∧ V32 v = c3 + 256 * (c2 + 256 * (c1 + 256 * c0)) ∧ (own_byte v 0 &&& (255 : Int32)).toInt = c0 ∧ (own_byte v 1 &&& (255 : Int32)).toInt = c1 ∧ (own_byte v 2 &&& (255 : Int32)).toInt = c2 ∧ (own_byte v 3 &&& (255 : Int32)).toInt = c3 := by
  have hv := (v32 v).2
  refine ⟨_, _, _, _, ?_, ?_, ?_, ?_, ?_, ob v 0 (by decide), ob v 1 (by decide), ob v 2 (by decide), ob v 3 (by decide)⟩
  · exact Nat.mod_lt _ (by decide)
  · exact Nat.mod_lt _ (by decide)
  · exact Nat.mod_lt _ (by decide)
  · exact Nat.mod_lt _ (by decide)
  · have e24 : (2 : Nat) ^ (24 - 8 * 0) = 16777216 := by decide
    have e16 : (2 : Nat) ^ (24 - 8 * 1) = 65536 := by decide
    have e8 : (2 : Nat) ^ (24 - 8 * 2) = 256 := by decide
    have e0 : (2 : Nat) ^ (24 - 8 * 3) = 1 := by decide
    rw [e24, e16, e8, e0]
    omega
theorem n_low (k hi : Nat) (h : hi < 2 ^ k) : hi &&& (2 ^ k - 1) = hi := by rw [Nat.and_two_pow_sub_one_eq_mod, Nat.mod_eq_of_lt h]
def own_m0 : Int64 := (4294967295 : Int64)
theorem u_m0 : U own_m0 = (4294967296 - 1) + 4294967296 * (0 + 4294967296 * 0) := by decide +kernel
theorem own_e0 (p1 p2 p4 : Int32) : EXPV p1 p2 p4 0 = (((p1.toInt64 <<< ((32 : Int32) &&& 0x3f).toInt64) ||| (p2.toInt64 &&& (4294967295 : Int64))) &&& own_m0) ||| ((p4.toInt64 &&& (4294967295 : Int64)) <<< (((8 : Int32) * ((4 : Int32) - (0 : Int32))) &&& 0x3f).toInt64) := by
  have e : (((4294967295 : Int64) <<< (((8 : Int32) * ((4 : Int32) - (0 : Int32))) &&& 0x3f).toInt64) ^^^ (-1 : Int64)) = own_m0 := by decide +kernel
  rw [← e]
  rfl
def own_m1 : Int64 := (-72057594021150721 : Int64)
theorem u_m1 : U own_m1 = (16777216 - 1) + 16777216 * (0 + 4294967296 * 255) := by decide +kernel
theorem own_e1 (p1 p2 p4 : Int32) : EXPV p1 p2 p4 1 = (((p1.toInt64 <<< ((32 : Int32) &&& 0x3f).toInt64) ||| (p2.toInt64 &&& (4294967295 : Int64))) &&& own_m1) ||| ((p4.toInt64 &&& (4294967295 : Int64)) <<< (((8 : Int32) * ((4 : Int32) - (1 : Int32))) &&& 0x3f).toInt64) := by
  have e : (((4294967295 : Int64) <<< (((8 : Int32) * ((4 : Int32) - (1 : Int32))) &&& 0x3f).toInt64) ^^^ (-1 : Int64)) = own_m1 := by decide +kernel
  rw [← e]
  rfl
def own_m2 : Int64 := (-281474976645121 : Int64)
theorem u_m2 : U own_m2 = (65536 - 1) + 65536 * (0 + 4294967296 * 65535) := by decide +kernel
theorem own_e2 (p1 p2 p4 : Int32) : EXPV p1 p2 p4 2 = (((p1.toInt64 <<< ((32 : Int32) &&& 0x3f).toInt64) ||| (p2.toInt64 &&& (4294967295 : Int64))) &&& own_m2) ||| ((p4.toInt64 &&& (4294967295 : Int64)) <<< (((8 : Int32) * ((4 : Int32) - (2 : Int32))) &&& 0x3f).toInt64) := by
  have e : (((4294967295 : Int64) <<< (((8 : Int32) * ((4 : Int32) - (2 : Int32))) &&& 0x3f).toInt64) ^^^ (-1 : Int64)) = own_m2 := by decide +kernel
  rw [← e]
  rfl
def own_m3 : Int64 := (-1099511627521 : Int64)
theorem u_m3 : U own_m3 = (256 - 1) + 256 * (0 + 4294967296 * 16777215) := by decide +kernel
theorem own_e3 (p1 p2 p4 : Int32) : EXPV p1 p2 p4 3 = (((p1.toInt64 <<< ((32 : Int32) &&& 0x3f).toInt64) ||| (p2.toInt64 &&& (4294967295 : Int64))) &&& own_m3) ||| ((p4.toInt64 &&& (4294967295 : Int64)) <<< (((8 : Int32) * ((4 : Int32) - (3 : Int32))) &&& 0x3f).toInt64) := by
  have e : (((4294967295 : Int64) <<< (((8 : Int32) * ((4 : Int32) - (3 : Int32))) &&& 0x3f).toInt64) ^^^ (-1 : Int64)) = own_m3 := by decide +kernel
  rw [← e]
  rfl
def own_m4 : Int64 := (-4294967296 : Int64)
theorem u_m4 : U own_m4 = (1 - 1) + 1 * (0 + 4294967296 * 4294967295) := by decide +kernel
theorem own_e4 (p1 p2 p4 : Int32) : EXPV p1 p2 p4 4 = (((p1.toInt64 <<< ((32 : Int32) &&& 0x3f).toInt64) ||| (p2.toInt64 &&& (4294967295 : Int64))) &&& own_m4) ||| ((p4.toInt64 &&& (4294967295 : Int64)) <<< (((8 : Int32) * ((4 : Int32) - (4 : Int32))) &&& 0x3f).toInt64) := by
  have e : (((4294967295 : Int64) <<< (((8 : Int32) * ((4 : Int32) - (4 : Int32))) &&& 0x3f).toInt64) ^^^ (-1 : Int64)) = own_m4 := by decide +kernel
  rw [← e]
  rfl
set_option maxHeartbeats 4000000 in
theorem own_case0 (p1 p2 p4 : Int32) (f g : Nat → Int32) (hg : ∀ i : Nat, i < 8 → g i = if i < 0 then f i else if i < 0 + 4 then own_byte p4 (i - 0) else f i)
    (a0 : f 0 = own_byte p1 0) (a1 : f 1 = own_byte p1 1) (a2 : f 2 = own_byte p1 2) (a3 : f 3 = own_byte p1 3) (b0 : f 4 = own_byte p2 0) (b1 : f 5 = own_byte p2 1) (b2 : f 6 = own_byte p2 2) (b3 : f 7 = own_byte p2 3) : DEC g = EXPV p1 p2 p4 0 := by
  obtain ⟨a0', a1', a2', a3', ra0, ra1, ra2, ra3, hA, A0, A1, A2, A3⟩ := ob4 p1
  obtain ⟨b0', b1', b2', b3', rb0, rb1, rb2, rb3, hB, B0, B1, B2, B3⟩ := ob4 p2
  obtain ⟨v0', v1', v2', v3', rv0, rv1, rv2, rv3, hV, V0, V1, V2, V3⟩ := ob4 p4
  rw [← a0] at A0; rw [← a1] at A1; rw [← a2] at A2; rw [← a3] at A3; rw [← b0] at B0; rw [← b1] at B1; rw [← b2] at B2; rw [← b3] at B3
  clear a0 a1 a2 a3 b0 b1 b2 b3
  refine u_inj ?_
  have Gin : ∀ k, k < 4 → g (0 + k) = own_byte p4 k := fun k hk => by rw [hg (0 + k) (by omega), if_neg (by omega), if_pos (by omega), Nat.add_sub_cancel_left]
  have Glo : ∀ i, i < 0 → g i = f i := fun i hi => by rw [hg i (by omega), if_pos hi]
  have Ghi : ∀ i, 0 + 4 ≤ i → i < 8 → g i = f i := fun i h1 h2 => by rw [hg i h2, if_neg (by omega), if_neg (by omega)]
  have G0 : g 0 = own_byte p4 0 := Gin 0 (by decide)
  have G1 : g 1 = own_byte p4 1 := Gin 1 (by decide)
  have G2 : g 2 = own_byte p4 2 := Gin 2 (by decide)
  have G3 : g 3 = own_byte p4 3 := Gin 3 (by decide)
  have G4 : g 4 = f 4 := Ghi 4 (by decide) (by decide)
  have G5 : g 5 = f 5 := Ghi 5 (by decide) (by decide)
  have G6 : g 6 = f 6 := Ghi 6 (by decide) (by decide)
  have G7 : g 7 = f 7 := Ghi 7 (by decide) (by decide)
  rw [own_e0, u_dec g _ _ _ _ _ _ _ _ (G0 ▸ V0) (G1 ▸ V1) (G2 ▸ V2) (G3 ▸ V3) (G4 ▸ B0) (G5 ▸ B1) (G6 ▸ B2) (G7 ▸ B3)]
  refine Eq.trans ?_ (u_exp p1 p2 p4 own_m0 _ 32 4294967296 (by decide) (by decide) 0 u_m0 (b3' + 256 * (b2' + 256 * (b1' + 256 * (b0')))) (a3' + 256 * (a2' + 256 * (a1' + 256 * (a0')))) (0) (by rw [hA, hB]; omega) (by omega) (by omega) rfl (by decide) (by decide)).symm
  rw [hV]
  omega
set_option maxHeartbeats 4000000 in
theorem own_case1 (p1 p2 p4 : Int32) (f g : Nat → Int32) (hg : ∀ i : Nat, i < 8 → g i = if i < 1 then f i else if i < 1 + 4 then own_byte p4 (i - 1) else f i)
    (a0 : f 0 = own_byte p1 0) (a1 : f 1 = own_byte p1 1) (a2 : f 2 = own_byte p1 2) (a3 : f 3 = own_byte p1 3) (b0 : f 4 = own_byte p2 0) (b1 : f 5 = own_byte p2 1) (b2 : f 6 = own_byte p2 2) (b3 : f 7 = own_byte p2 3) : DEC g = EXPV p1 p2 p4 1 := by
  obtain ⟨a0', a1', a2', a3', ra0, ra1, ra2, ra3, hA, A0, A1, A2, A3⟩ := ob4 p1
  obtain ⟨b0', b1', b2', b3', rb0, rb1, rb2, rb3, hB, B0, B1, B2, B3⟩ := ob4 p2
  obtain ⟨v0', v1', v2', v3', rv0, rv1, rv2, rv3, hV, V0, V1, V2, V3⟩ := ob4 p4
  rw [← a0] at A0; rw [← a1] at A1; rw [← a2] at A2; rw [← a3] at A3; rw [← b0] at B0; rw [← b1] at B1; rw [← b2] at B2; rw [← b3] at B3
  clear a0 a1 a2 a3 b0 b1 b2 b3
  refine u_inj ?_
  have Gin : ∀ k, k < 4 → g (1 + k) = own_byte p4 k := fun k hk => by rw [hg (1 + k) (by omega), if_neg (by omega), if_pos (by omega), Nat.add_sub_cancel_left]
  have Glo : ∀ i, i < 1 → g i = f i := fun i hi => by rw [hg i (by omega), if_pos hi]
  have Ghi : ∀ i, 1 + 4 ≤ i → i < 8 → g i = f i := fun i h1 h2 => by rw [hg i h2, if_neg (by omega), if_neg (by omega)]
  have G0 : g 0 = f 0 := Glo 0 (by decide)
  have G1 : g 1 = own_byte p4 0 := Gin 0 (by decide)
  have G2 : g 2 = own_byte p4 1 := Gin 1 (by decide)
  have G3 : g 3 = own_byte p4 2 := Gin 2 (by decide)
  have G4 : g 4 = own_byte p4 3 := Gin 3 (by decide)
  have G5 : g 5 = f 5 := Ghi 5 (by decide) (by decide)
  have G6 : g 6 = f 6 := Ghi 6 (by decide) (by decide)
  have G7 : g 7 = f 7 := Ghi 7 (by decide) (by decide)
  rw [own_e1, u_dec g _ _ _ _ _ _ _ _ (G0 ▸ A0) (G1 ▸ V0) (G2 ▸ V1) (G3 ▸ V2) (G4 ▸ V3) (G5 ▸ B1) (G6 ▸ B2) (G7 ▸ B3)]
  refine Eq.trans ?_ (u_exp p1 p2 p4 own_m1 _ 24 16777216 (by decide) (by decide) 255 u_m1 (b3' + 256 * (b2' + 256 * (b1'))) (b0' + 256 * (a3' + 256 * (a2' + 256 * (a1')))) (a0') (by rw [hA, hB]; omega) (by omega) (by omega) (n_low 8 _ (by omega)) (by decide) (by decide)).symm
  rw [hV]
  omega
set_option maxHeartbeats 4000000 in
theorem own_case2 (p1 p2 p4 : Int32) (f g : Nat → Int32) (hg : ∀ i : Nat, i < 8 → g i = if i < 2 then f i else if i < 2 + 4 then own_byte p4 (i - 2) else f i)
    (a0 : f 0 = own_byte p1 0) (a1 : f 1 = own_byte p1 1) (a2 : f 2 = own_byte p1 2) (a3 : f 3 = own_byte p1 3) (b0 : f 4 = own_byte p2 0) (b1 : f 5 = own_byte p2 1) (b2 : f 6 = own_byte p2 2) (b3 : f 7 = own_byte p2 3) : DEC g = EXPV p1 p2 p4 2 := by
  obtain ⟨a0', a1', a2', a3', ra0, ra1, ra2, ra3, hA, A0, A1, A2, A3⟩ := ob4 p1
  obtain ⟨b0', b1', b2', b3', rb0, rb1, rb2, rb3, hB, B0, B1, B2, B3⟩ := ob4 p2
  obtain ⟨v0', v1', v2', v3', rv0, rv1, rv2, rv3, hV, V0, V1, V2, V3⟩ := ob4 p4
  rw [← a0] at A0; rw [← a1] at A1; rw [← a2] at A2; rw [← a3] at A3; rw [← b0] at B0; rw [← b1] at B1; rw [← b2] at B2; rw [← b3] at B3
  clear a0 a1 a2 a3 b0 b1 b2 b3
  refine u_inj ?_
  have Gin : ∀ k, k < 4 → g (2 + k) = own_byte p4 k := fun k hk => by rw [hg (2 + k) (by omega), if_neg (by omega), if_pos (by omega), Nat.add_sub_cancel_left]
  have Glo : ∀ i, i < 2 → g i = f i := fun i hi => by rw [hg i (by omega), if_pos hi]
  have Ghi : ∀ i, 2 + 4 ≤ i → i < 8 → g i = f i := fun i h1 h2 => by rw [hg i h2, if_neg (by omega), if_neg (by omega)]
  have G0 : g 0 = f 0 := Glo 0 (by decide)
  have G1 : g 1 = f 1 := Glo 1 (by decide)
  have G2 : g 2 = own_byte p4 0 := Gin 0 (by decide)
  have G3 : g 3 = own_byte p4 1 := Gin 1 (by decide)
  have G4 : g 4 = own_byte p4 2 := Gin 2 (by decide)
  have G5 : g 5 = own_byte p4 3 := Gin 3 (by decide)
  have G6 : g 6 = f 6 := Ghi 6 (by decide) (by decide)
  have G7 : g 7 = f 7 := Ghi 7 (by decide) (by decide)
  rw [own_e2, u_dec g _ _ _ _ _ _ _ _ (G0 ▸ A0) (G1 ▸ A1) (G2 ▸ V0) (G3 ▸ V1) (G4 ▸ V2) (G5 ▸ V3) (G6 ▸ B2) (G7 ▸ B3)]
  refine Eq.trans ?_ (u_exp p1 p2 p4 own_m2 _ 16 65536 (by decide) (by decide) 65535 u_m2 (b3' + 256 * (b2')) (b1' + 256 * (b0' + 256 * (a3' + 256 * (a2')))) (a1' + 256 * (a0')) (by rw [hA, hB]; omega) (by omega) (by omega) (n_low 16 _ (by omega)) (by decide) (by decide)).symm
  rw [hV]
  omega
set_option maxHeartbeats 4000000 in
theorem own_case3 (p1 p2 p4 : Int32) (f g : Nat → Int32) (hg : ∀ i : Nat, i < 8 → g i = if i < 3 then f i else if i < 3 + 4 then own_byte p4 (i - 3) else f i)
    (a0 : f 0 = own_byte p1 0) (a1 : f 1 = own_byte p1 1) (a2 : f 2 = own_byte p1 2) (a3 : f 3 = own_byte p1 3) (b0 : f 4 = own_byte p2 0) (b1 : f 5 = own_byte p2 1) (b2 : f 6 = own_byte p2 2) (b3 : f 7 = own_byte p2 3) : DEC g = EXPV p1 p2 p4 3 := by
  obtain ⟨a0', a1', a2', a3', ra0, ra1, ra2, ra3, hA, A0, A1, A2, A3⟩ := ob4 p1
  obtain ⟨b0', b1', b2', b3', rb0, rb1, rb2, rb3, hB, B0, B1, B2, B3⟩ := ob4 p2
  obtain ⟨v0', v1', v2', v3', rv0, rv1, rv2, rv3, hV, V0, V1, V2, V3⟩ := ob4 p4
  rw [← a0] at A0; rw [← a1] at A1; rw [← a2] at A2; rw [← a3] at A3; rw [← b0] at B0; rw [← b1] at B1; rw [← b2] at B2; rw [← b3] at B3
  clear a0 a1 a2 a3 b0 b1 b2 b3
  refine u_inj ?_
  have Gin : ∀ k, k < 4 → g (3 + k) = own_byte p4 k := fun k hk => by rw [hg (3 + k) (by omega), if_neg (by omega), if_pos (by omega), Nat.add_sub_cancel_left]
  have Glo : ∀ i, i < 3 → g i = f i := fun i hi => by rw [hg i (by omega), if_pos hi]
  have Ghi : ∀ i, 3 + 4 ≤ i → i < 8 → g i = f i := fun i h1 h2 => by rw [hg i h2, if_neg (by omega), if_neg (by omega)]
  have G0 : g 0 = f 0 := Glo 0 (by decide)
  have G1 : g 1 = f 1 := Glo 1 (by decide)
  have G2 : g 2 = f 2 := Glo 2 (by decide)
  have G3 : g 3 = own_byte p4 0 := Gin 0 (by decide)
  have G4 : g 4 = own_byte p4 1 := Gin 1 (by decide)
  have G5 : g 5 = own_byte p4 2 := Gin 2 (by decide)
  have G6 : g 6 = own_byte p4 3 := Gin 3 (by decide)
  have G7 : g 7 = f 7 := Ghi 7 (by decide) (by decide)
  rw [own_e3, u_dec g _ _ _ _ _ _ _ _ (G0 ▸ A0) (G1 ▸ A1) (G2 ▸ A2) (G3 ▸ V0) (G4 ▸ V1) (G5 ▸ V2) (G6 ▸ V3) (G7 ▸ B3)]
  refine Eq.trans ?_ (u_exp p1 p2 p4 own_m3 _ 8 256 (by decide) (by decide) 16777215 u_m3 (b3') (b2' + 256 * (b1' + 256 * (b0' + 256 * (a3')))) (a2' + 256 * (a1' + 256 * (a0'))) (by rw [hA, hB]; omega) (by omega) (by omega) (n_low 24 _ (by omega)) (by decide) (by decide)).symm
  rw [hV]
  omega
set_option maxHeartbeats 4000000 in
theorem own_case4 (p1 p2 p4 : Int32) (f g : Nat → Int32) (hg : ∀ i : Nat, i < 8 → g i = if i < 4 then f i else if i < 4 + 4 then own_byte p4 (i - 4) else f i)
    (a0 : f 0 = own_byte p1 0) (a1 : f 1 = own_byte p1 1) (a2 : f 2 = own_byte p1 2) (a3 : f 3 = own_byte p1 3) (b0 : f 4 = own_byte p2 0) (b1 : f 5 = own_byte p2 1) (b2 : f 6 = own_byte p2 2) (b3 : f 7 = own_byte p2 3) : DEC g = EXPV p1 p2 p4 4 := by
  obtain ⟨a0', a1', a2', a3', ra0, ra1, ra2, ra3, hA, A0, A1, A2, A3⟩ := ob4 p1
  obtain ⟨b0', b1', b2', b3', rb0, rb1, rb2, rb3, hB, B0, B1, B2, B3⟩ := ob4 p2
  obtain ⟨v0', v1', v2', v3', rv0, rv1, rv2, rv3, hV, V0, V1, V2, V3⟩ := ob4 p4
  rw [← a0] at A0; rw [← a1] at A1; rw [← a2] at A2; rw [← a3] at A3; rw [← b0] at B0; rw [← b1] at B1; rw [← b2] at B2; rw [← b3] at B3
  clear a0 a1 a2 a3 b0 b1 b2 b3
  refine u_inj ?_
  have Gin : ∀ k, k < 4 → g (4 + k) = own_byte p4 k := fun k hk => by rw [hg (4 + k) (by omega), if_neg (by omega), if_pos (by omega), Nat.add_sub_cancel_left]
  have Glo : ∀ i, i < 4 → g i = f i := fun i hi => by rw [hg i (by omega), if_pos hi]
  have Ghi : ∀ i, 4 + 4 ≤ i → i < 8 → g i = f i := fun i h1 h2 => by rw [hg i h2, if_neg (by omega), if_neg (by omega)]
  have G0 : g 0 = f 0 := Glo 0 (by decide)
  have G1 : g 1 = f 1 := Glo 1 (by decide)
  have G2 : g 2 = f 2 := Glo 2 (by decide)
  have G3 : g 3 = f 3 := Glo 3 (by decide)
  have G4 : g 4 = own_byte p4 0 := Gin 0 (by decide)
  have G5 : g 5 = own_byte p4 1 := Gin 1 (by decide)
  have G6 : g 6 = own_byte p4 2 := Gin 2 (by decide)
  have G7 : g 7 = own_byte p4 3 := Gin 3 (by decide)
  rw [own_e4, u_dec g _ _ _ _ _ _ _ _ (G0 ▸ A0) (G1 ▸ A1) (G2 ▸ A2) (G3 ▸ A3) (G4 ▸ V0) (G5 ▸ V1) (G6 ▸ V2) (G7 ▸ V3)]
  refine Eq.trans ?_ (u_exp p1 p2 p4 own_m4 _ 0 1 (by decide) (by decide) 4294967295 u_m4 (0) (b3' + 256 * (b2' + 256 * (b1' + 256 * (b0')))) (a3' + 256 * (a2' + 256 * (a1' + 256 * (a0')))) (by rw [hA, hB]; omega) (by omega) (by omega) (n_low 32 _ (by omega)) (by decide) (by decide)).symm
  rw [hV]
  omega
theorem own_law (p1 p2 p4 pp : Int32) (hpp : 0 ≤ pp.toInt ∧ pp.toInt ≤ 4) (f g : Nat → Int32) (hg : ∀ i : Nat, i < 8 → g i = if i < pp.toNatClampNeg then f i else if i < pp.toNatClampNeg + 4 then own_byte p4 (i - pp.toNatClampNeg) else f i)
    (a0 : f 0 = own_byte p1 0) (a1 : f 1 = own_byte p1 1) (a2 : f 2 = own_byte p1 2) (a3 : f 3 = own_byte p1 3) (b0 : f 4 = own_byte p2 0) (b1 : f 5 = own_byte p2 1) (b2 : f 6 = own_byte p2 2) (b3 : f 7 = own_byte p2 3) : DEC g = EXPV p1 p2 p4 pp := by
  have hc : pp = 0 ∨ pp = 1 ∨ pp = 2 ∨ pp = 3 ∨ pp = 4 := by
    have q : pp.toInt = 0 ∨ pp.toInt = 1 ∨ pp.toInt = 2 ∨ pp.toInt = 3 ∨ pp.toInt = 4 := by omega
    rcases q with q | q | q | q | q
    · exact Or.inl (Int32.toInt_inj.mp q)
    · exact Or.inr (Or.inl (Int32.toInt_inj.mp q))
    · exact Or.inr (Or.inr (Or.inl (Int32.toInt_inj.mp q)))
    · exact Or.inr (Or.inr (Or.inr (Or.inl (Int32.toInt_inj.mp q))))
    · exact Or.inr (Or.inr (Or.inr (Or.inr (Int32.toInt_inj.mp q))))
  rcases hc with rfl | rfl | rfl | rfl | rfl
  · have e : (0 : Int32).toNatClampNeg = 0 := by decide +kernel
    rw [e] at hg
    exact own_case0 p1 p2 p4 f g hg a0 a1 a2 a3 b0 b1 b2 b3
  · have e : (1 : Int32).toNatClampNeg = 1 := by decide +kernel
    rw [e] at hg
    exact own_case1 p1 p2 p4 f g hg a0 a1 a2 a3 b0 b1 b2 b3
  · have e : (2 : Int32).toNatClampNeg = 2 := by decide +kernel
    rw [e] at hg
    exact own_case2 p1 p2 p4 f g hg a0 a1 a2 a3 b0 b1 b2 b3
  · have e : (3 : Int32).toNatClampNeg = 3 := by decide +kernel
    rw [e] at hg
    exact own_case3 p1 p2 p4 f g hg a0 a1 a2 a3 b0 b1 b2 b3
  · have e : (4 : Int32).toNatClampNeg = 4 := by decide +kernel
    rw [e] at hg
    exact own_case4 p1 p2 p4 f g hg a0 a1 a2 a3 b0 b1 b2 b3

theorem d5_0 : decode jdk_29_method_65_code 0 = .ok (.iload_n 0, 1) := by decide +kernel
theorem d5_1 : decode jdk_29_method_65_code 1 = .ok (.iload_n 1, 1) := by decide +kernel
theorem d5_2 : decode jdk_29_method_65_code 2 = .ok (.if_icmp .lt 7, 3) := by decide +kernel
theorem d5_5 : decode jdk_29_method_65_code 5 = .ok (.iload_n 0, 1) := by decide +kernel
theorem d5_6 : decode jdk_29_method_65_code 6 = .ok (.goto 4, 3) := by decide +kernel
theorem d5_9 : decode jdk_29_method_65_code 9 = .ok (.iload_n 1, 1) := by decide +kernel
theorem d5_10 : decode jdk_29_method_65_code 10 = .ok (.ireturn, 1) := by decide +kernel
theorem ef_5 (m : MethodId) (x0 : Int32) (x1 : Int32) : entryFrame m #[(.int x0), (.int x1)] 2 = mkF m 0 #[.val (.int x0), .val (.int x1)] [] := by first | (simp [entryFrame, mkF, argsToLocals, Value.category]; done) | rfl
def F5_9 (x : Int32) (y : Int32) : Int32 := y
def F5_5 (x : Int32) (y : Int32) : Int32 := x
def F5_0 (x : Int32) (y : Int32) : Int32 := if x < y then F5_9 x y else F5_5 x y
def Q5 (Z : State) (x : Int32) (y : Int32) (h0 : Heap) (n0 : Nat) (v_ : Option Value) (h_ : Heap) (L_ : List Loc) : Prop := v_ = some (.int (F5_0 x y)) ∧ Fr n0 L_ ∧ h_ = h0
set_option maxRecDepth 65536 in
set_option maxHeartbeats 40000000 in
theorem rm5 (l : Launch) (Z : State) (a0 : Array Value) (hw : ∀ d ∈ tables_1, d.before a0 Z = true) (ws : List Jvm.Cond) (x : Int32) (y : Int32) (h0 : Heap) (n0 : Nat) (Z0 : n0 ≤ h0.size) :
    MetFree l (⟨"java/lang/Math", "max", "(II)I"⟩ : MethodName) (head1 (Jvm.Cond.code (⟨"java/lang/Math", "max", "(II)I"⟩ : MethodName) jdk_29_method_65_code 2 (some .int) :: ws) ({ frames := 0, cells := 0, slots := 0, locals := 0 } : Room)) (fun a_ U_ => a_ = #[(.int x), (.int y)] ∧ Z.Warmed39 U_.vm ∧ U_.heap = h0) (fun _ _ _ _ _ => True) (fun _ U_ o_ V_ => ∃ v_ L_, o_ = .returned v_ ∧ Q5 Z x y h0 n0 v_ V_.heap L_ ∧ FrameEnd U_ o_ V_ L_ ({ frames := 0, cells := 0, slots := 0, locals := 0 } : Room).cells ({ frames := 0, cells := 0, slots := 0, locals := 0 } : Room).slots) := by
  refine MetFree.of_bodySF (Jvm.Free.JP.mathPlain rfl (by decide +kernel)) hisR ?_
  intro p e s m args below meth c s₁ Bd hml0 hP hK
  obtain ⟨rfl, hZ, hh⟩ := hP
  have hx := Bd.exec
  have hby := Bd.bytes
  have hml : c.maxLocals = 2 := hml0
  have hown : s.vm.findClass "java/lang/Math" = some m.cls := findClass_of_methodNamed Bd.named
  have hnm := (name_of_methodNamed Bd.named Bd.method).1
  have hlk : meth.locks = false := BodyLoose.notSynchronized Bd
  have hrt := Bd.returns
  have X0 : Stand p l e ({ frames := 0, cells := 0, slots := 0, locals := 0 } : Room) s m #[(.int x), (.int y)] below meth c s₁ [] 0 0 := Stand.of_body Bd
  have e0 : s₁.heap = h0 := by rw [← hh, Bd.state]; rfl
  have N0 := Fr.nil n0
  show Go p.tables e below (PQ s below (Q5 Z x y h0 n0) 0 0) _
  have t9 : Go p.tables e below (PQ s below (fun v_ h_ L_ => v_ = some (.int (F5_9 x y)) ∧ Fr n0 L_ ∧ h_ = h0) 0 0) (s₁.setTop (mkF m 9 #[.val (.int x), .val (.int y)] [])) := by
    refine Go.via (B := s₁.setTop (mkF m 10 #[.val (.int x), .val (.int y)] [(.int y)])) (fun t_ k_ => ?_) ?_
    · show Steps p.tables e below (s₁.setTop (mkF m 9 #[.val (.int x), .val (.int y)] [])) t_
      refine XS.iloadN X0.here hx rfl (hb hby d5_9) rfl ?_
      show Steps p.tables e below (s₁.setTop (mkF m 10 #[.val (.int x), .val (.int y)] [(.int y)])) t_
      exact k_
    exact Go.leave X0 hlk (v := (some (.int y))) (fun h => by rw [hrt] at h; cases h) (fun fs hr => retI X0 hx hrt (hb hby d5_10) hr) (by decide) (by decide) (⟨rfl, N0, e0⟩)
  have t5 : Go p.tables e below (PQ s below (fun v_ h_ L_ => v_ = some (.int (F5_5 x y)) ∧ Fr n0 L_ ∧ h_ = h0) 0 0) (s₁.setTop (mkF m 5 #[.val (.int x), .val (.int y)] [])) := by
    refine Go.via (B := s₁.setTop (mkF m 10 #[.val (.int x), .val (.int y)] [(.int x)])) (fun t_ k_ => ?_) ?_
    · show Steps p.tables e below (s₁.setTop (mkF m 5 #[.val (.int x), .val (.int y)] [])) t_
      refine XS.iloadN X0.here hx rfl (hb hby d5_5) rfl ?_
      show Steps p.tables e below (s₁.setTop (mkF m 6 #[.val (.int x), .val (.int y)] [(.int x)])) t_
      refine XS.goto X0.here hx rfl (pc0 := 6) (pc' := 10) rfl (hb hby d5_6) (by decide) (by decide) ?_
      show Steps p.tables e below (s₁.setTop (mkF m 10 #[.val (.int x), .val (.int y)] [(.int x)])) t_
      exact k_
    exact Go.leave X0 hlk (v := (some (.int x))) (fun h => by rw [hrt] at h; cases h) (fun fs hr => retI X0 hx hrt (hb hby d5_10) hr) (by decide) (by decide) (⟨rfl, N0, e0⟩)
  have t0 : Go p.tables e below (PQ s below (fun v_ h_ L_ => v_ = some (.int (F5_0 x y)) ∧ Fr n0 L_ ∧ h_ = h0) 0 0) (s₁.setTop (mkF m 0 #[.val (.int x), .val (.int y)] [])) := by
    refine Go.via (B := s₁.setTop (mkF m 2 #[.val (.int x), .val (.int y)] [(.int y), (.int x)])) (fun t_ k_ => ?_) ?_
    · show Steps p.tables e below (s₁.setTop (mkF m 0 #[.val (.int x), .val (.int y)] [])) t_
      refine XS.iloadN X0.here hx rfl (hb hby d5_0) rfl ?_
      show Steps p.tables e below (s₁.setTop (mkF m 1 #[.val (.int x), .val (.int y)] [(.int x)])) t_
      refine XS.iloadN X0.here hx rfl (hb hby d5_1) rfl ?_
      show Steps p.tables e below (s₁.setTop (mkF m 2 #[.val (.int x), .val (.int y)] [(.int y), (.int x)])) t_
      exact k_
    by_cases hc2 : x < y
    · rw [show F5_0 x y = F5_9 x y from if_pos hc2]
      refine Go.via (B := s₁.setTop (mkF m 9 #[.val (.int x), .val (.int y)] [])) (fun t_ k_ => XS.icmpYes X0.here hx rfl (pc0 := 2) (pc' := 9) rfl (hb hby d5_2) rfl ((tlt hc2).1) (by decide) (by decide) k_) ?_
      exact t9
    · rw [show F5_0 x y = F5_5 x y from if_neg hc2]
      refine Go.via (B := s₁.setTop (mkF m 5 #[.val (.int x), .val (.int y)] [])) (fun t_ k_ => XS.icmpNo X0.here hx rfl (hb hby d5_2) rfl ((flt hc2).1) k_) ?_
      exact t5
  refine Go.via (B := s₁.setTop (mkF m 0 #[.val (.int x), .val (.int y)] [])) (fun t_ k_ => castTop (ef_5 m x y) k_) ?_
  exact t0
theorem d7_0 : decode jdk_29_method_69_code 0 = .ok (.iload_n 0, 1) := by decide +kernel
theorem d7_1 : decode jdk_29_method_69_code 1 = .ok (.iload_n 1, 1) := by decide +kernel
theorem d7_2 : decode jdk_29_method_69_code 2 = .ok (.if_icmp .gt 7, 3) := by decide +kernel
theorem d7_5 : decode jdk_29_method_69_code 5 = .ok (.iload_n 0, 1) := by decide +kernel
theorem d7_6 : decode jdk_29_method_69_code 6 = .ok (.goto 4, 3) := by decide +kernel
theorem d7_9 : decode jdk_29_method_69_code 9 = .ok (.iload_n 1, 1) := by decide +kernel
theorem d7_10 : decode jdk_29_method_69_code 10 = .ok (.ireturn, 1) := by decide +kernel
theorem ef_7 (m : MethodId) (x0 : Int32) (x1 : Int32) : entryFrame m #[(.int x0), (.int x1)] 2 = mkF m 0 #[.val (.int x0), .val (.int x1)] [] := by first | (simp [entryFrame, mkF, argsToLocals, Value.category]; done) | rfl
def F7_9 (x : Int32) (y : Int32) : Int32 := y
def F7_5 (x : Int32) (y : Int32) : Int32 := x
def F7_0 (x : Int32) (y : Int32) : Int32 := if y < x then F7_9 x y else F7_5 x y
def Q7 (Z : State) (x : Int32) (y : Int32) (h0 : Heap) (n0 : Nat) (v_ : Option Value) (h_ : Heap) (L_ : List Loc) : Prop := v_ = some (.int (F7_0 x y)) ∧ Fr n0 L_ ∧ h_ = h0
set_option maxRecDepth 65536 in
set_option maxHeartbeats 40000000 in
theorem rm7 (l : Launch) (Z : State) (a0 : Array Value) (hw : ∀ d ∈ tables_1, d.before a0 Z = true) (ws : List Jvm.Cond) (x : Int32) (y : Int32) (h0 : Heap) (n0 : Nat) (Z0 : n0 ≤ h0.size) :
    MetFree l (⟨"java/lang/Math", "min", "(II)I"⟩ : MethodName) (head1 (Jvm.Cond.code (⟨"java/lang/Math", "min", "(II)I"⟩ : MethodName) jdk_29_method_69_code 2 (some .int) :: ws) ({ frames := 0, cells := 0, slots := 0, locals := 0 } : Room)) (fun a_ U_ => a_ = #[(.int x), (.int y)] ∧ Z.Warmed39 U_.vm ∧ U_.heap = h0) (fun _ _ _ _ _ => True) (fun _ U_ o_ V_ => ∃ v_ L_, o_ = .returned v_ ∧ Q7 Z x y h0 n0 v_ V_.heap L_ ∧ FrameEnd U_ o_ V_ L_ ({ frames := 0, cells := 0, slots := 0, locals := 0 } : Room).cells ({ frames := 0, cells := 0, slots := 0, locals := 0 } : Room).slots) := by
  refine MetFree.of_bodySF (Jvm.Free.JP.mathPlain rfl (by decide +kernel)) hisR ?_
  intro p e s m args below meth c s₁ Bd hml0 hP hK
  obtain ⟨rfl, hZ, hh⟩ := hP
  have hx := Bd.exec
  have hby := Bd.bytes
  have hml : c.maxLocals = 2 := hml0
  have hown : s.vm.findClass "java/lang/Math" = some m.cls := findClass_of_methodNamed Bd.named
  have hnm := (name_of_methodNamed Bd.named Bd.method).1
  have hlk : meth.locks = false := BodyLoose.notSynchronized Bd
  have hrt := Bd.returns
  have X0 : Stand p l e ({ frames := 0, cells := 0, slots := 0, locals := 0 } : Room) s m #[(.int x), (.int y)] below meth c s₁ [] 0 0 := Stand.of_body Bd
  have e0 : s₁.heap = h0 := by rw [← hh, Bd.state]; rfl
  have N0 := Fr.nil n0
  show Go p.tables e below (PQ s below (Q7 Z x y h0 n0) 0 0) _
  have t9 : Go p.tables e below (PQ s below (fun v_ h_ L_ => v_ = some (.int (F7_9 x y)) ∧ Fr n0 L_ ∧ h_ = h0) 0 0) (s₁.setTop (mkF m 9 #[.val (.int x), .val (.int y)] [])) := by
    refine Go.via (B := s₁.setTop (mkF m 10 #[.val (.int x), .val (.int y)] [(.int y)])) (fun t_ k_ => ?_) ?_
    · show Steps p.tables e below (s₁.setTop (mkF m 9 #[.val (.int x), .val (.int y)] [])) t_
      refine XS.iloadN X0.here hx rfl (hb hby d7_9) rfl ?_
      show Steps p.tables e below (s₁.setTop (mkF m 10 #[.val (.int x), .val (.int y)] [(.int y)])) t_
      exact k_
    exact Go.leave X0 hlk (v := (some (.int y))) (fun h => by rw [hrt] at h; cases h) (fun fs hr => retI X0 hx hrt (hb hby d7_10) hr) (by decide) (by decide) (⟨rfl, N0, e0⟩)
  have t5 : Go p.tables e below (PQ s below (fun v_ h_ L_ => v_ = some (.int (F7_5 x y)) ∧ Fr n0 L_ ∧ h_ = h0) 0 0) (s₁.setTop (mkF m 5 #[.val (.int x), .val (.int y)] [])) := by
    refine Go.via (B := s₁.setTop (mkF m 10 #[.val (.int x), .val (.int y)] [(.int x)])) (fun t_ k_ => ?_) ?_
    · show Steps p.tables e below (s₁.setTop (mkF m 5 #[.val (.int x), .val (.int y)] [])) t_
      refine XS.iloadN X0.here hx rfl (hb hby d7_5) rfl ?_
      show Steps p.tables e below (s₁.setTop (mkF m 6 #[.val (.int x), .val (.int y)] [(.int x)])) t_
      refine XS.goto X0.here hx rfl (pc0 := 6) (pc' := 10) rfl (hb hby d7_6) (by decide) (by decide) ?_
      show Steps p.tables e below (s₁.setTop (mkF m 10 #[.val (.int x), .val (.int y)] [(.int x)])) t_
      exact k_
    exact Go.leave X0 hlk (v := (some (.int x))) (fun h => by rw [hrt] at h; cases h) (fun fs hr => retI X0 hx hrt (hb hby d7_10) hr) (by decide) (by decide) (⟨rfl, N0, e0⟩)
  have t0 : Go p.tables e below (PQ s below (fun v_ h_ L_ => v_ = some (.int (F7_0 x y)) ∧ Fr n0 L_ ∧ h_ = h0) 0 0) (s₁.setTop (mkF m 0 #[.val (.int x), .val (.int y)] [])) := by
    refine Go.via (B := s₁.setTop (mkF m 2 #[.val (.int x), .val (.int y)] [(.int y), (.int x)])) (fun t_ k_ => ?_) ?_
    · show Steps p.tables e below (s₁.setTop (mkF m 0 #[.val (.int x), .val (.int y)] [])) t_
      refine XS.iloadN X0.here hx rfl (hb hby d7_0) rfl ?_
      show Steps p.tables e below (s₁.setTop (mkF m 1 #[.val (.int x), .val (.int y)] [(.int x)])) t_
      refine XS.iloadN X0.here hx rfl (hb hby d7_1) rfl ?_
      show Steps p.tables e below (s₁.setTop (mkF m 2 #[.val (.int x), .val (.int y)] [(.int y), (.int x)])) t_
      exact k_
    by_cases hc2 : y < x
    · rw [show F7_0 x y = F7_9 x y from if_pos hc2]
      refine Go.via (B := s₁.setTop (mkF m 9 #[.val (.int x), .val (.int y)] [])) (fun t_ k_ => XS.icmpYes X0.here hx rfl (pc0 := 2) (pc' := 9) rfl (hb hby d7_2) rfl ((tlt hc2).2.2.1) (by decide) (by decide) k_) ?_
      exact t9
    · rw [show F7_0 x y = F7_5 x y from if_neg hc2]
      refine Go.via (B := s₁.setTop (mkF m 5 #[.val (.int x), .val (.int y)] [])) (fun t_ k_ => XS.icmpNo X0.here hx rfl (hb hby d7_2) rfl ((flt hc2).2.2.1) k_) ?_
      exact t5
  refine Go.via (B := s₁.setTop (mkF m 0 #[.val (.int x), .val (.int y)] [])) (fun t_ k_ => castTop (ef_7 m x y) k_) ?_
  exact t0
theorem own_max (x y : Int32) : (x < y → F5_0 x y = y) ∧ (¬ x < y → F5_0 x y = x) := ⟨fun h => by rw [F5_0, if_pos h]; rfl, fun h => by rw [F5_0, if_neg h]; rfl⟩
theorem own_min (x y : Int32) : (y < x → F7_0 x y = y) ∧ (¬ y < x → F7_0 x y = x) := ⟨fun h => by rw [F7_0, if_pos h]; rfl, fun h => by rw [F7_0, if_neg h]; rfl⟩
theorem own_minN {n : Nat} {y : Int32} (hn : n < 2 ^ 31) (h0 : 0 ≤ y.toInt) : ¬ F7_0 n.toInt32 y < 0 ∧ (F7_0 n.toInt32 y).toNatClampNeg ≤ n ∧ (F7_0 n.toInt32 y).toNatClampNeg ≤ y.toNatClampNeg ∧ ((F7_0 n.toInt32 y).toNatClampNeg = n ∨ (F7_0 n.toInt32 y).toNatClampNeg = y.toNatClampNeg) := by
  have q := nat32 hn
  have ln := len_toInt hn
  have qy := own_nat h0
  by_cases h : y < n.toInt32
  · rw [(own_min _ _).1 h]
    rw [Int32.lt_iff_toInt_lt, ln] at h
    exact ⟨qy.1, by omega, Nat.le_refl _, Or.inr rfl⟩
  · rw [(own_min _ _).2 h]
    rw [Int32.lt_iff_toInt_lt, ln] at h
    exact ⟨q.2, by omega, by omega, Or.inl q.1⟩
theorem d6_0 : decode jdk_65_method_121_code 0 = .ok (.iload_n 1, 1) := by decide +kernel
theorem d6_1 : decode jdk_65_method_121_code 1 = .ok (.aload_n 0, 1) := by decide +kernel
theorem d6_2 : decode jdk_65_method_121_code 2 = .ok (.arraylength, 1) := by decide +kernel
theorem d6_3 : decode jdk_65_method_121_code 3 = .ok (.if_icmp .ne 11, 3) := by decide +kernel
theorem d6_6 : decode jdk_65_method_121_code 6 = .ok (.aload_n 0, 1) := by decide +kernel
theorem d6_7 : decode jdk_65_method_121_code 7 = .ok (.invokevirtual 310, 3) := by decide +kernel
theorem d6_10 : decode jdk_65_method_121_code 10 = .ok (.checkcast 311, 3) := by decide +kernel
theorem d6_13 : decode jdk_65_method_121_code 13 = .ok (.areturn, 1) := by decide +kernel
theorem d6_14 : decode jdk_65_method_121_code 14 = .ok (.iload_n 1, 1) := by decide +kernel
theorem d6_15 : decode jdk_65_method_121_code 15 = .ok (.newarray .byte, 2) := by decide +kernel
theorem d6_17 : decode jdk_65_method_121_code 17 = .ok (.astore_n 2, 1) := by decide +kernel
theorem d6_18 : decode jdk_65_method_121_code 18 = .ok (.aload_n 0, 1) := by decide +kernel
theorem d6_19 : decode jdk_65_method_121_code 19 = .ok (.iconst 0, 1) := by decide +kernel
theorem d6_20 : decode jdk_65_method_121_code 20 = .ok (.aload_n 2, 1) := by decide +kernel
theorem d6_21 : decode jdk_65_method_121_code 21 = .ok (.iconst 0, 1) := by decide +kernel
theorem d6_22 : decode jdk_65_method_121_code 22 = .ok (.aload_n 0, 1) := by decide +kernel
theorem d6_23 : decode jdk_65_method_121_code 23 = .ok (.arraylength, 1) := by decide +kernel
theorem d6_24 : decode jdk_65_method_121_code 24 = .ok (.iload_n 1, 1) := by decide +kernel
theorem d6_25 : decode jdk_65_method_121_code 25 = .ok (.invokestatic 304, 3) := by decide +kernel
theorem d6_28 : decode jdk_65_method_121_code 28 = .ok (.invokestatic 150, 3) := by decide +kernel
theorem d6_31 : decode jdk_65_method_121_code 31 = .ok (.aload_n 2, 1) := by decide +kernel
theorem d6_32 : decode jdk_65_method_121_code 32 = .ok (.areturn, 1) := by decide +kernel
theorem pn_6 : plainName "java/util/Arrays" = true := by first | (simp [plainName, overriddenIn]; done) | decide +kernel
theorem ef_6 (m : MethodId) (x0 : Addr) (x1 : Int32) : entryFrame m #[(.ref x0), (.int x1)] 3 = mkF m 0 #[.val (.ref x0), .val (.int x1), .unset] [] := by first | (simp [entryFrame, mkF, argsToLocals, Value.category]; done) | rfl
def Q6 (Z : State) (a : Addr) (k : Int32) (n : Nat) (f : Nat → Int32) (h0 : Heap) (n0 : Nat) (v : Option Value) (h : Heap) (L : List Loc) : Prop := ∃ r : Addr, v = some (.ref r) ∧ Fr n0 L ∧ n0 ≤ r ∧ h0.size ≤ r ∧ Keep h0 h [] ∧ Ary Z h r .byte k.toNatClampNeg (fun i => if i < n then f i else 0)
set_option maxRecDepth 65536 in
set_option maxHeartbeats 40000000 in
theorem rm6 (l : Launch) (Z : State) (a0 : Array Value) (hw : ∀ d ∈ tables_1, d.before a0 Z = true) (ws : List Jvm.Cond) (a : Addr) (k : Int32) (n : Nat) (f : Nat → Int32) (h0 : Heap) (n0 : Nat) (Z0 : n0 ≤ h0.size) (A : Ary Z h0 a .byte n f) (hne : ¬ k = n.toInt32) (hk0 : 0 ≤ k.toInt) (hk1 : k.toInt ≤ 15) :
    MetFree l (⟨"java/util/Arrays", "copyOf", "([BI)[B"⟩ : MethodName) (head1 (Jvm.Cond.code (⟨"java/util/Arrays", "copyOf", "([BI)[B"⟩ : MethodName) jdk_65_method_121_code 3 (some (.array .byte)) :: ws) ({ frames := 1, cells := 1, slots := 15, locals := 64 } : Room)) (fun a_ U_ => a_ = #[(.ref a), (.int k)] ∧ Z.Warmed39 U_.vm ∧ U_.heap = h0) (fun _ _ _ _ _ => True) (fun _ U_ o_ V_ => ∃ v_ L_, o_ = .returned v_ ∧ Q6 Z a k n f h0 n0 v_ V_.heap L_ ∧ FrameEnd U_ o_ V_ L_ ({ frames := 1, cells := 1, slots := 15, locals := 64 } : Room).cells ({ frames := 1, cells := 1, slots := 15, locals := 64 } : Room).slots) := by
  refine MetFree.of_bodySF (plainFor_of_name pn_6) hisR ?_
  intro p e s m args below meth c s₁ Bd hml0 hP hK
  obtain ⟨rfl, hZ, hh⟩ := hP
  have hx := Bd.exec
  have hby := Bd.bytes
  have hml : c.maxLocals = 3 := hml0
  have hown : s.vm.findClass "java/util/Arrays" = some m.cls := findClass_of_methodNamed Bd.named
  have hnm := (name_of_methodNamed Bd.named Bd.method).1
  have hlk : meth.locks = false := BodyLoose.notSynchronized Bd
  have hrt := Bd.returns
  have X0 : Stand p l e ({ frames := 1, cells := 1, slots := 15, locals := 64 } : Room) s m #[(.ref a), (.int k)] below meth c s₁ [] 0 0 := Stand.of_body Bd
  have e0 : s₁.heap = h0 := by rw [← hh, Bd.state]; rfl
  have N0 := Fr.nil n0
  show Go p.tables e below (PQ s below (Q6 Z a k n f h0 n0) 1 15) _
  refine Go.via (B := s₁.setTop (mkF m 0 #[.val (.ref a), .val (.int k), .unset] [])) (fun t_ k_ => castTop (ef_6 m a k) k_) ?_
  have hB : n < 2 ^ 31 := by obtain ⟨_, _, _, u, _⟩ := A; exact u
  have hkn := own_nat hk0
  refine Go.via (B := s₁.setTop (mkF m 2 #[.val (.ref a), .val (.int k), .unset] [(.ref a), (.int k)])) (fun t_ k_ => ?_) ?_
  · show Steps p.tables e below (s₁.setTop (mkF m 0 #[.val (.ref a), .val (.int k), .unset] [])) t_
    refine XS.iloadN X0.here hx rfl (hb hby d6_0) rfl ?_
    show Steps p.tables e below (s₁.setTop (mkF m 1 #[.val (.ref a), .val (.int k), .unset] [(.int k)])) t_
    refine XS.aloadN X0.here hx rfl (hb hby d6_1) rfl rfl ?_
    show Steps p.tables e below (s₁.setTop (mkF m 2 #[.val (.ref a), .val (.int k), .unset] [(.ref a), (.int k)])) t_
    exact k_
  refine Go.via (B := s₁.setTop (mkF m 3 #[.val (.ref a), .val (.int k), .unset] [(.int (n.toInt32)), (.int k)])) (fun t_ k_ => alen X0 hx hZ e0 A (g := (mkF m 2 #[.val (.ref a), .val (.int k), .unset] [(.ref a), (.int k)])) rfl rfl (hb hby d6_2) t_ k_) ?_
  refine Go.via (B := s₁.setTop (mkF m 14 #[.val (.ref a), .val (.int k), .unset] [])) (fun t_ k_ => XS.icmpYes X0.here hx rfl (pc0 := 3) (pc' := 14) rfl (hb hby d6_3) rfl ((feq hne).2) (by decide) (by decide) k_) ?_
  refine Go.via (B := s₁.setTop (mkF m 15 #[.val (.ref a), .val (.int k), .unset] [(.int k)])) (fun t_ k_ => ?_) ?_
  · show Steps p.tables e below (s₁.setTop (mkF m 14 #[.val (.ref a), .val (.int k), .unset] [])) t_
    refine XS.iloadN X0.here hx rfl (hb hby d6_14) rfl ?_
    show Steps p.tables e below (s₁.setTop (mkF m 15 #[.val (.ref a), .val (.int k), .unset] [(.int k)])) t_
    exact k_
  obtain ⟨T1, h1, k1, X1, e1, E1, A1, st1⟩ := newP X0 hx hZ (hw _ (List.mem_of_getElem? (i := 9) rfl)) e0 (g := (mkF m 15 #[.val (.ref a), .val (.int k), .unset] [(.int k)])) rfl (hb hby d6_15) rfl hkn.1 (cap := 15) (by omega) (by decide) (by decide) (by decide)
  obtain ⟨b1, g1⟩ : ∃ z, z = h0.size := ⟨_, rfl⟩
  rw [← g1] at A1 st1
  have gb1 : n0 ≤ b1 := Nat.le_trans Z0 (Nat.le_of_eq g1.symm)
  have Z1 : n0 ≤ h1.size := Nat.le_trans Z0 E1.1
  refine Go.via st1 ?_
  show Go p.tables e below _ (T1.setTop (mkF m 17 #[.val (.ref a), .val (.int k), .unset] [(.ref b1)]))
  have Aold := A.ext E1
  have Bnew : Ary Z h1 b1 .byte k.toNatClampNeg (fun _ => 0) := Ary.new A1 hkn.1 rfl rfl
  refine Go.via (B := T1.setTop (mkF m 23 #[.val (.ref a), .val (.int k), .val (.ref b1)] [(.ref a), (.int (0 : Int32)), (.ref b1), (.int (0 : Int32)), (.ref a)])) (fun t_ k_ => ?_) ?_
  · show Steps p.tables e below (T1.setTop (mkF m 17 #[.val (.ref a), .val (.int k), .unset] [(.ref b1)])) t_
    refine XS.astoreN X1.here hx rfl (hb hby d6_17) rfl rfl (l' := #[.val (.ref a), .val (.int k), .val (.ref b1)]) rfl ?_
    show Steps p.tables e below (T1.setTop (mkF m 18 #[.val (.ref a), .val (.int k), .val (.ref b1)] [])) t_
    refine XS.aloadN X1.here hx rfl (hb hby d6_18) rfl rfl ?_
    show Steps p.tables e below (T1.setTop (mkF m 19 #[.val (.ref a), .val (.int k), .val (.ref b1)] [(.ref a)])) t_
    refine XS.iconst X1.here hx rfl (hb hby d6_19) ?_
    show Steps p.tables e below (T1.setTop (mkF m 20 #[.val (.ref a), .val (.int k), .val (.ref b1)] [(.int (0 : Int32)), (.ref a)])) t_
    refine XS.aloadN X1.here hx rfl (hb hby d6_20) rfl rfl ?_
    show Steps p.tables e below (T1.setTop (mkF m 21 #[.val (.ref a), .val (.int k), .val (.ref b1)] [(.ref b1), (.int (0 : Int32)), (.ref a)])) t_
    refine XS.iconst X1.here hx rfl (hb hby d6_21) ?_
    show Steps p.tables e below (T1.setTop (mkF m 22 #[.val (.ref a), .val (.int k), .val (.ref b1)] [(.int (0 : Int32)), (.ref b1), (.int (0 : Int32)), (.ref a)])) t_
    refine XS.aloadN X1.here hx rfl (hb hby d6_22) rfl rfl ?_
    show Steps p.tables e below (T1.setTop (mkF m 23 #[.val (.ref a), .val (.int k), .val (.ref b1)] [(.ref a), (.int (0 : Int32)), (.ref b1), (.int (0 : Int32)), (.ref a)])) t_
    exact k_
  refine Go.via (B := T1.setTop (mkF m 24 #[.val (.ref a), .val (.int k), .val (.ref b1)] [(.int (n.toInt32)), (.int (0 : Int32)), (.ref b1), (.int (0 : Int32)), (.ref a)])) (fun t_ k_ => alen X1 hx hZ e1 Aold (g := (mkF m 23 #[.val (.ref a), .val (.int k), .val (.ref b1)] [(.ref a), (.int (0 : Int32)), (.ref b1), (.int (0 : Int32)), (.ref a)])) rfl rfl (hb hby d6_23) t_ k_) ?_
  refine Go.via (B := T1.setTop (mkF m 25 #[.val (.ref a), .val (.int k), .val (.ref b1)] [(.int k), (.int (n.toInt32)), (.int (0 : Int32)), (.ref b1), (.int (0 : Int32)), (.ref a)])) (fun t_ k_ => ?_) ?_
  · show Steps p.tables e below (T1.setTop (mkF m 24 #[.val (.ref a), .val (.int k), .val (.ref b1)] [(.int (n.toInt32)), (.int (0 : Int32)), (.ref b1), (.int (0 : Int32)), (.ref a)])) t_
    refine XS.iloadN X1.here hx rfl (hb hby d6_24) rfl ?_
    show Steps p.tables e below (T1.setTop (mkF m 25 #[.val (.ref a), .val (.int k), .val (.ref b1)] [(.int k), (.int (n.toInt32)), (.int (0 : Int32)), (.ref b1), (.int (0 : Int32)), (.ref a)])) t_
    exact k_
  obtain ⟨_, _, ⟨T2, L2, k2, n2⟩, -, X2, ⟨Lc2, hQ2, l2, y2, z2⟩, st2⟩ := Jvm.LawKit.callS X1 hx (y := (⟨"java/lang/Math", "min", "(II)I"⟩ : MethodName)) hown (mvT hZ (hw _ (List.mem_of_getElem? (i := 31) rfl))) (mvT hZ (hw _ (List.mem_of_getElem? (i := 32) rfl))) (mvT hZ (hw _ (List.mem_of_getElem? (i := 25) rfl))) (mvT hZ (hw _ (List.mem_of_getElem? (i := 33) rfl))) (by decide) (backOf (W := 4) (rm7 l Z a0 hw [] (n.toInt32) k  h1 n0 Z1 ) hZ (hw _ (List.mem_of_getElem? (i := 33) rfl)) (hw _ (List.mem_of_getElem? (i := 25) rfl)) (by decide) (by decide)) (g := (mkF m 25 #[.val (.ref a), .val (.int k), .val (.ref b1)] [(.int k), (.int (n.toInt32)), (.int (0 : Int32)), (.ref b1), (.int (0 : Int32)), (.ref a)])) rfl (by rw [hml]; rfl) (argsL := [(.int (n.toInt32)), (.int k)]) (rest := [(.int (0 : Int32)), (.ref b1), (.int (0 : Int32)), (.ref a)]) (lenOf pd0 rfl) rfl (by show 2 * 0 + _ ≤ _; exact Nat.le_of_eq rfl) (hb hby d6_25) (fun _ _ => ⟨rfl, e1, (by decide : 1 + 0 ≤ _), (by decide : 15 + 0 ≤ _)⟩)
  dsimp only [Pt.U, Pt.locs, Pt.cells, Pt.slots] at X2 l2 y2 z2 st2 hQ2
  subst l2 y2 z2
  obtain ⟨rfl, N2q, e2⟩ := hQ2
  have N2 := Fr.app N0 N2q
  refine Go.via st2 ?_
  show Go p.tables e below _ (T2.setTop (mkF m 28 #[.val (.ref a), .val (.int k), .val (.ref b1)] [(.int (F7_0 (n.toInt32) k)), (.int (0 : Int32)), (.ref b1), (.int (0 : Int32)), (.ref a)]))
  have hmin := own_minN hB hk0
  obtain ⟨T3, h3, L3, X3, e3, N3, K3, V3, st3⟩ := acopy X2 hx hZ hown (hw _ (List.mem_of_getElem? (i := 34) rfl)) (hw _ (List.mem_of_getElem? (i := 37) rfl)) (hw _ (List.mem_of_getElem? (i := 35) rfl)) (hw _ (List.mem_of_getElem? (i := 36) rfl)) e2 Aold Bnew rfl hmin.1 hmin.2.1 hmin.2.2.1 N2 gb1 (g := (mkF m 28 #[.val (.ref a), .val (.int k), .val (.ref b1)] [(.int (F7_0 (n.toInt32) k)), (.int (0 : Int32)), (.ref b1), (.int (0 : Int32)), (.ref a)])) rfl (by rw [hml]; rfl) rfl (hb hby d6_28) (by decide) (W := 0) (by show 2 * 0 + _ ≤ _; exact Nat.le_of_eq rfl) (by decide)
  refine Go.via st3 ?_
  show Go p.tables e below _ (T3.setTop (mkF m 31 #[.val (.ref a), .val (.int k), .val (.ref b1)] []))
  refine Go.via (B := T3.setTop (mkF m 32 #[.val (.ref a), .val (.int k), .val (.ref b1)] [(.ref b1)])) (fun t_ k_ => ?_) ?_
  · show Steps p.tables e below (T3.setTop (mkF m 31 #[.val (.ref a), .val (.int k), .val (.ref b1)] [])) t_
    refine XS.aloadN X3.here hx rfl (hb hby d6_31) rfl rfl ?_
    show Steps p.tables e below (T3.setTop (mkF m 32 #[.val (.ref a), .val (.int k), .val (.ref b1)] [(.ref b1)])) t_
    exact k_
  have hV : Ary Z h3 b1 .byte k.toNatClampNeg (fun i => if i < n then f i else 0) := by
    refine own_congr V3 fun i hi => ?_
    rcases hmin.2.2.2 with u | u
    · rw [u]
    · rw [u, if_pos hi]
      have : k.toNatClampNeg ≤ n := u ▸ hmin.2.1
      rw [if_pos (by omega)]
  exact Go.leave X3 hlk (v := (some (.ref b1))) (fun h => by rw [hrt] at h; cases h) (fun fs hr => retA X3 hx hrt rfl rfl (hb hby d6_32) hr) (by decide) (by decide) (⟨b1, rfl, N3, gb1, Nat.le_of_eq g1.symm, by rw [e3]; exact ((Keep.refl h0 []).ext E1).trans K3 (allS (Or.inr (Nat.le_of_eq g1.symm)) all0), by rw [e3]; exact hV⟩)
theorem d1_0 : decode prog_8_method_2_code 0 = .ok (.aload_n 0, 1) := by decide +kernel
theorem d1_1 : decode prog_8_method_2_code 1 = .ok (.invokespecial 7, 3) := by decide +kernel
theorem d1_4 : decode prog_8_method_2_code 4 = .ok (.aload_n 0, 1) := by decide +kernel
theorem d1_5 : decode prog_8_method_2_code 5 = .ok (.iload_n 1, 1) := by decide +kernel
theorem d1_6 : decode prog_8_method_2_code 6 = .ok (.newarray .byte, 2) := by decide +kernel
theorem d1_8 : decode prog_8_method_2_code 8 = .ok (.putfield 12, 3) := by decide +kernel
theorem d1_11 : decode prog_8_method_2_code 11 = .ok (.return_, 1) := by decide +kernel
theorem pn_1 : plainName "com/example/bytewright/bytewright/classfile/ByteWriter" = true := by first | (simp [plainName, overriddenIn]; done) | decide +kernel
theorem ef_1 (m : MethodId) (x0 : Addr) (x1 : Int32) : entryFrame m #[(.ref x0), (.int x1)] 2 = mkF m 0 #[.val (.ref x0), .val (.int x1)] [] := by first | (simp [entryFrame, mkF, argsToLocals, Value.category]; done) | rfl
def Q1 (Z : State) (a : Addr) (k : Int32) (h0 : Heap) (n0 : Nat) (v : Option Value) (h : Heap) (L : List Loc) : Prop := v = none ∧ Fr n0 L ∧ ∃ r : Addr, n0 ≤ r ∧ BP Z h a r k.toNatClampNeg (fun _ => 0) 0
set_option maxRecDepth 65536 in
set_option maxHeartbeats 40000000 in
theorem rm1 (l : Launch) (Z : State) (a0 : Array Value) (hw : ∀ d ∈ tables_1, d.before a0 Z = true) (ws : List Jvm.Cond) (a : Addr) (k : Int32) (h0 : Heap) (n0 : Nat) (Z0 : n0 ≤ h0.size) (E : Exa Z h0 a "com/example/bytewright/bytewright/classfile/ByteWriter") (Fb : Fld Z h0 a "com/example/bytewright/bytewright/classfile/ByteWriter" "bytes" "[B" .null) (Fs : Fld Z h0 a "com/example/bytewright/bytewright/classfile/ByteWriter" "size" "I" (.int 0)) (ga : n0 ≤ a) (hk0 : 0 ≤ k.toInt) (hk1 : k.toInt ≤ 15) :
    MetFree l (⟨"com/example/bytewright/bytewright/classfile/ByteWriter", "<init>", "(I)V"⟩ : MethodName) (head1 (Jvm.Cond.code (⟨"com/example/bytewright/bytewright/classfile/ByteWriter", "<init>", "(I)V"⟩ : MethodName) prog_8_method_2_code 2 none :: ws) ({ frames := 1, cells := 1, slots := 15, locals := 14 } : Room)) (fun a_ U_ => a_ = #[(.ref a), (.int k)] ∧ Z.Warmed39 U_.vm ∧ U_.heap = h0) (fun _ _ _ _ _ => True) (fun _ U_ o_ V_ => ∃ v_ L_, o_ = .returned v_ ∧ Q1 Z a k h0 n0 v_ V_.heap L_ ∧ FrameEnd U_ o_ V_ L_ ({ frames := 1, cells := 1, slots := 15, locals := 14 } : Room).cells ({ frames := 1, cells := 1, slots := 15, locals := 14 } : Room).slots) := by
  refine MetFree.of_bodySF (plainFor_of_name pn_1) hisR ?_
  intro p e s m args below meth c s₁ Bd hml0 hP hK
  obtain ⟨rfl, hZ, hh⟩ := hP
  have hx := Bd.exec
  have hby := Bd.bytes
  have hml : c.maxLocals = 2 := hml0
  have hown : s.vm.findClass "com/example/bytewright/bytewright/classfile/ByteWriter" = some m.cls := findClass_of_methodNamed Bd.named
  have hnm := (name_of_methodNamed Bd.named Bd.method).1
  have hlk : meth.locks = false := BodyLoose.notSynchronized Bd
  have hrt := Bd.returns
  have X0 : Stand p l e ({ frames := 1, cells := 1, slots := 15, locals := 14 } : Room) s m #[(.ref a), (.int k)] below meth c s₁ [] 0 0 := Stand.of_body Bd
  have e0 : s₁.heap = h0 := by rw [← hh, Bd.state]; rfl
  have N0 := Fr.nil n0
  show Go p.tables e below (PQ s below (Q1 Z a k h0 n0) 1 15) _
  refine Go.via (B := s₁.setTop (mkF m 0 #[.val (.ref a), .val (.int k)] [])) (fun t_ k_ => castTop (ef_1 m a k) k_) ?_
  have hkn := own_nat hk0
  refine Go.via (B := s₁.setTop (mkF m 1 #[.val (.ref a), .val (.int k)] [(.ref a)])) (fun t_ k_ => ?_) ?_
  · show Steps p.tables e below (s₁.setTop (mkF m 0 #[.val (.ref a), .val (.int k)] [])) t_
    refine XS.aloadN X0.here hx rfl (hb hby d1_0) rfl rfl ?_
    show Steps p.tables e below (s₁.setTop (mkF m 1 #[.val (.ref a), .val (.int k)] [(.ref a)])) t_
    exact k_
  obtain ⟨T4, X4, e4, st4⟩ := initO X0 hx hZ hown (hw _ (List.mem_of_getElem? (i := 6) rfl)) (hw _ (List.mem_of_getElem? (i := 7) rfl)) (hw _ (List.mem_of_getElem? (i := 8) rfl)) e0 (g := (mkF m 1 #[.val (.ref a), .val (.int k)] [(.ref a)])) rfl (by rw [hml]; rfl) rfl (hb hby d1_1) (by decide) (W := 0) (by show 2 * 0 + _ ≤ _; exact Nat.le_of_eq rfl) (by decide)
  refine Go.via st4 ?_
  show Go p.tables e below _ (T4.setTop (mkF m 4 #[.val (.ref a), .val (.int k)] []))
  refine Go.via (B := T4.setTop (mkF m 6 #[.val (.ref a), .val (.int k)] [(.int k), (.ref a)])) (fun t_ k_ => ?_) ?_
  · show Steps p.tables e below (T4.setTop (mkF m 4 #[.val (.ref a), .val (.int k)] [])) t_
    refine XS.aloadN X4.here hx rfl (hb hby d1_4) rfl rfl ?_
    show Steps p.tables e below (T4.setTop (mkF m 5 #[.val (.ref a), .val (.int k)] [(.ref a)])) t_
    refine XS.iloadN X4.here hx rfl (hb hby d1_5) rfl ?_
    show Steps p.tables e below (T4.setTop (mkF m 6 #[.val (.ref a), .val (.int k)] [(.int k), (.ref a)])) t_
    exact k_
  obtain ⟨T5, h5, k5, X5, e5, E5, A5, st5⟩ := newP X4 hx hZ (hw _ (List.mem_of_getElem? (i := 9) rfl)) e4 (g := (mkF m 6 #[.val (.ref a), .val (.int k)] [(.int k), (.ref a)])) rfl (hb hby d1_6) rfl hkn.1 (cap := 15) (by omega) (by decide) (by decide) (by decide)
  obtain ⟨b5, g5⟩ : ∃ z, z = h0.size := ⟨_, rfl⟩
  rw [← g5] at A5 st5
  have gb5 : n0 ≤ b5 := Nat.le_trans Z0 (Nat.le_of_eq g5.symm)
  have Z5 : n0 ≤ h5.size := Nat.le_trans Z0 E5.1
  refine Go.via st5 ?_
  show Go p.tables e below _ (T5.setTop (mkF m 8 #[.val (.ref a), .val (.int k)] [(.ref b5), (.ref a)]))
  have Bnew : Ary Z h5 b5 .byte k.toNatClampNeg (fun _ => 0) := Ary.new A5 hkn.1 rfl rfl
  have nar : a ≠ b5 := Nat.ne_of_lt (Nat.lt_of_lt_of_le E.lt (Nat.le_of_eq g5.symm))
  obtain ⟨T6, h6, X6, e6, W6, st6⟩ := putF X5 hx hZ hown (host := "") (Or.inl (hw _ (List.mem_of_getElem? (i := 10) rfl))) Via.refl e5 (Fb.ext E5) (E.ext E5) (Or.inl (hw _ (List.mem_of_getElem? (i := 11) rfl))) (hw _ (List.mem_of_getElem? (i := 1) rfl)) (ty := (.array .byte)) (by decide) rfl rfl (g := (mkF m 8 #[.val (.ref a), .val (.int k)] [(.ref b5), (.ref a)])) rfl rfl (hb hby d1_8)
  have N6 := Fr.snoc X6 N0 ga
  have Z6 : n0 ≤ h6.size := Nat.le_trans Z5 (Keep.of_wr W6).1
  refine Go.via st6 ?_
  show Go p.tables e below _ (T6.setTop (mkF m 11 #[.val (.ref a), .val (.int k)] []))
  exact Go.leave X6 hlk (v := none) (fun _ => rfl) (fun fs hr => X6.returnOut hx hrt (hb hby d1_11) hr) (by decide) (by decide) (⟨rfl, N6, b5, gb5, by rw [e6]; exact ⟨(E.ext E5).wr W6, (Fb.ext E5).same W6, (Fs.ext E5).other W6 (Or.inr (slot_ne (Or.inl (hw _ (List.mem_of_getElem? (i := 22) rfl))) (Or.inl (hw _ (List.mem_of_getElem? (i := 11) rfl))) (by decide) (t := .int) (t' := (.array .byte)) (by decide) (by decide))), Bnew.other W6 (Ne.symm nar), nar⟩⟩)
theorem own_mx {n : Nat} {z : Int32} (hn : n ≤ 15) (hz0 : 0 ≤ z.toInt) (hz4 : z.toInt ≤ 4) (hlt : (n : Int) < z.toInt + 4) : 0 ≤ (F5_0 (n.toInt32 * (2 : Int32)) (z + (4 : Int32))).toInt ∧ (F5_0 (n.toInt32 * (2 : Int32)) (z + (4 : Int32))).toInt ≤ 15 ∧ z.toInt + 4 ≤ (F5_0 (n.toInt32 * (2 : Int32)) (z + (4 : Int32))).toInt ∧ ¬ F5_0 (n.toInt32 * (2 : Int32)) (z + (4 : Int32)) = n.toInt32 := by
  have hln := len_toInt (n := n) (by omega)
  have hz4' : (z + (4 : Int32)).toInt = z.toInt + 4 := own_small (k := 4) hz0 (by omega) (by decide)
  have h2 : (n.toInt32 * (2 : Int32)).toInt = 2 * n := by
    have a := c_imul n.toInt32 (2 : Int32)
    have e2 : (2 : Int32).toInt = 2 := rfl
    have r := rng32 (n.toInt32 * (2 : Int32))
    rw [hln, e2] at a
    omega
  have q : ∀ k : Int32, (n : Int) < k.toInt → ¬ k = n.toInt32 := fun k h u => by rw [u, hln] at h; omega
  by_cases h : n.toInt32 * (2 : Int32) < z + (4 : Int32)
  · rw [(own_max _ _).1 h]
    exact ⟨by omega, by omega, by omega, q _ (by omega)⟩
  · rw [(own_max _ _).2 h]
    rw [Int32.lt_iff_toInt_lt, h2, hz4'] at h
    exact ⟨by omega, by omega, by omega, q _ (by omega)⟩
theorem d4_0 : decode prog_8_method_17_code 0 = .ok (.aload_n 0, 1) := by decide +kernel
theorem d4_1 : decode prog_8_method_17_code 1 = .ok (.getfield 19, 3) := by decide +kernel
theorem d4_4 : decode prog_8_method_17_code 4 = .ok (.iload_n 1, 1) := by decide +kernel
theorem d4_5 : decode prog_8_method_17_code 5 = .ok (.iadd, 1) := by decide +kernel
theorem d4_6 : decode prog_8_method_17_code 6 = .ok (.aload_n 0, 1) := by decide +kernel
theorem d4_7 : decode prog_8_method_17_code 7 = .ok (.getfield 12, 3) := by decide +kernel
theorem d4_10 : decode prog_8_method_17_code 10 = .ok (.arraylength, 1) := by decide +kernel
theorem d4_11 : decode prog_8_method_17_code 11 = .ok (.if_icmp .le 30, 3) := by decide +kernel
theorem d4_14 : decode prog_8_method_17_code 14 = .ok (.aload_n 0, 1) := by decide +kernel
theorem d4_15 : decode prog_8_method_17_code 15 = .ok (.aload_n 0, 1) := by decide +kernel
theorem d4_16 : decode prog_8_method_17_code 16 = .ok (.getfield 12, 3) := by decide +kernel
theorem d4_19 : decode prog_8_method_17_code 19 = .ok (.aload_n 0, 1) := by decide +kernel
theorem d4_20 : decode prog_8_method_17_code 20 = .ok (.getfield 12, 3) := by decide +kernel
theorem d4_23 : decode prog_8_method_17_code 23 = .ok (.arraylength, 1) := by decide +kernel
theorem d4_24 : decode prog_8_method_17_code 24 = .ok (.iconst 2, 1) := by decide +kernel
theorem d4_25 : decode prog_8_method_17_code 25 = .ok (.imul, 1) := by decide +kernel
theorem d4_26 : decode prog_8_method_17_code 26 = .ok (.aload_n 0, 1) := by decide +kernel
theorem d4_27 : decode prog_8_method_17_code 27 = .ok (.getfield 19, 3) := by decide +kernel
theorem d4_30 : decode prog_8_method_17_code 30 = .ok (.iload_n 1, 1) := by decide +kernel
theorem d4_31 : decode prog_8_method_17_code 31 = .ok (.iadd, 1) := by decide +kernel
theorem d4_32 : decode prog_8_method_17_code 32 = .ok (.invokestatic 52, 3) := by decide +kernel
theorem d4_35 : decode prog_8_method_17_code 35 = .ok (.invokestatic 46, 3) := by decide +kernel
theorem d4_38 : decode prog_8_method_17_code 38 = .ok (.putfield 12, 3) := by decide +kernel
theorem d4_41 : decode prog_8_method_17_code 41 = .ok (.return_, 1) := by decide +kernel
theorem pn_4 : plainName "com/example/bytewright/bytewright/classfile/ByteWriter" = true := by first | (simp [plainName, overriddenIn]; done) | decide +kernel
theorem ef_4 (m : MethodId) (x0 : Addr) (x1 : Int32) : entryFrame m #[(.ref x0), (.int x1)] 2 = mkF m 0 #[.val (.ref x0), .val (.int x1)] [] := by first | (simp [entryFrame, mkF, argsToLocals, Value.category]; done) | rfl
def Q4 (Z : State) (a : Addr) (cn : Int32) (r : Addr) (n : Nat) (f : Nat → Int32) (z : Int32) (h0 : Heap) (n0 : Nat) (v : Option Value) (h : Heap) (L : List Loc) : Prop := v = none ∧ Fr n0 L ∧ ∃ (r' : Addr) (n' : Nat) (f' : Nat → Int32), n0 ≤ r' ∧ BP Z h a r' n' f' z ∧ z.toInt + 4 ≤ n' ∧ n' ≤ 15 ∧ (∀ i : Nat, (i : Int) < z.toInt → f' i = f i)
set_option maxRecDepth 65536 in
set_option maxHeartbeats 40000000 in
theorem rm4 (l : Launch) (Z : State) (a0 : Array Value) (hw : ∀ d ∈ tables_1, d.before a0 Z = true) (ws : List Jvm.Cond) (a : Addr) (cn : Int32) (r : Addr) (n : Nat) (f : Nat → Int32) (z : Int32) (h0 : Heap) (n0 : Nat) (Z0 : n0 ≤ h0.size) (H : BP Z h0 a r n f z) (ga : n0 ≤ a) (gr : n0 ≤ r) (hc : cn = 4) (hz0 : 0 ≤ z.toInt) (hz4 : z.toInt ≤ 4) (hn : n ≤ 15) (hzn : z.toInt ≤ n) :
    MetFree l (⟨"com/example/bytewright/bytewright/classfile/ByteWriter", "ensure", "(I)V"⟩ : MethodName) (head1 (Jvm.Cond.code (⟨"com/example/bytewright/bytewright/classfile/ByteWriter", "ensure", "(I)V"⟩ : MethodName) prog_8_method_17_code 2 none :: ws) ({ frames := 2, cells := 1, slots := 15, locals := 80 } : Room)) (fun a_ U_ => a_ = #[(.ref a), (.int cn)] ∧ Z.Warmed39 U_.vm ∧ U_.heap = h0) (fun _ _ _ _ _ => True) (fun _ U_ o_ V_ => ∃ v_ L_, o_ = .returned v_ ∧ Q4 Z a cn r n f z h0 n0 v_ V_.heap L_ ∧ FrameEnd U_ o_ V_ L_ ({ frames := 2, cells := 1, slots := 15, locals := 80 } : Room).cells ({ frames := 2, cells := 1, slots := 15, locals := 80 } : Room).slots) := by
  refine MetFree.of_bodySF (plainFor_of_name pn_4) hisR ?_
  intro p e s m args below meth c s₁ Bd hml0 hP hK
  obtain ⟨rfl, hZ, hh⟩ := hP
  have hx := Bd.exec
  have hby := Bd.bytes
  have hml : c.maxLocals = 2 := hml0
  have hown : s.vm.findClass "com/example/bytewright/bytewright/classfile/ByteWriter" = some m.cls := findClass_of_methodNamed Bd.named
  have hnm := (name_of_methodNamed Bd.named Bd.method).1
  have hlk : meth.locks = false := BodyLoose.notSynchronized Bd
  have hrt := Bd.returns
  have X0 : Stand p l e ({ frames := 2, cells := 1, slots := 15, locals := 80 } : Room) s m #[(.ref a), (.int cn)] below meth c s₁ [] 0 0 := Stand.of_body Bd
  have e0 : s₁.heap = h0 := by rw [← hh, Bd.state]; rfl
  have N0 := Fr.nil n0
  show Go p.tables e below (PQ s below (Q4 Z a cn r n f z h0 n0) 1 15) _
  refine Go.via (B := s₁.setTop (mkF m 0 #[.val (.ref a), .val (.int cn)] [])) (fun t_ k_ => castTop (ef_4 m a cn) k_) ?_
  subst hc
  have hln := len_toInt (n := n) (by omega)
  have hz4' : (z + (4 : Int32)).toInt = z.toInt + 4 := own_small (k := 4) hz0 (by omega) (by decide)
  refine Go.via (B := s₁.setTop (mkF m 1 #[.val (.ref a), .val (.int (4 : Int32))] [(.ref a)])) (fun t_ k_ => ?_) ?_
  · show Steps p.tables e below (s₁.setTop (mkF m 0 #[.val (.ref a), .val (.int (4 : Int32))] [])) t_
    refine XS.aloadN X0.here hx rfl (hb hby d4_0) rfl rfl ?_
    show Steps p.tables e below (s₁.setTop (mkF m 1 #[.val (.ref a), .val (.int (4 : Int32))] [(.ref a)])) t_
    exact k_
  obtain ⟨T7, X7, e7, st7⟩ := getF X0 hx hZ hown (host := "") (Or.inl (hw _ (List.mem_of_getElem? (i := 21) rfl))) Via.refl e0 H.2.2.1 (g := (mkF m 1 #[.val (.ref a), .val (.int (4 : Int32))] [(.ref a)])) rfl rfl (hb hby d4_1)
  refine Go.via st7 ?_
  show Go p.tables e below _ (T7.setTop (mkF m 4 #[.val (.ref a), .val (.int (4 : Int32))] [(.int z)]))
  refine Go.via (B := T7.setTop (mkF m 7 #[.val (.ref a), .val (.int (4 : Int32))] [(.ref a), (.int (z + (4 : Int32)))])) (fun t_ k_ => ?_) ?_
  · show Steps p.tables e below (T7.setTop (mkF m 4 #[.val (.ref a), .val (.int (4 : Int32))] [(.int z)])) t_
    refine XS.iloadN X7.here hx rfl (hb hby d4_4) rfl ?_
    show Steps p.tables e below (T7.setTop (mkF m 5 #[.val (.ref a), .val (.int (4 : Int32))] [(.int (4 : Int32)), (.int z)])) t_
    refine XS.iadd X7.here hx rfl (hb hby d4_5) rfl ?_
    show Steps p.tables e below (T7.setTop (mkF m 6 #[.val (.ref a), .val (.int (4 : Int32))] [(.int (z + (4 : Int32)))])) t_
    refine XS.aloadN X7.here hx rfl (hb hby d4_6) rfl rfl ?_
    show Steps p.tables e below (T7.setTop (mkF m 7 #[.val (.ref a), .val (.int (4 : Int32))] [(.ref a), (.int (z + (4 : Int32)))])) t_
    exact k_
  obtain ⟨T8, X8, e8, st8⟩ := getF X7 hx hZ hown (host := "") (Or.inl (hw _ (List.mem_of_getElem? (i := 10) rfl))) Via.refl e7 H.2.1 (g := (mkF m 7 #[.val (.ref a), .val (.int (4 : Int32))] [(.ref a), (.int (z + (4 : Int32)))])) rfl rfl (hb hby d4_7)
  refine Go.via st8 ?_
  show Go p.tables e below _ (T8.setTop (mkF m 10 #[.val (.ref a), .val (.int (4 : Int32))] [(.ref r), (.int (z + (4 : Int32)))]))
  refine Go.via (B := T8.setTop (mkF m 11 #[.val (.ref a), .val (.int (4 : Int32))] [(.int (n.toInt32)), (.int (z + (4 : Int32)))])) (fun t_ k_ => alen X8 hx hZ e8 H.2.2.2.1 (g := (mkF m 10 #[.val (.ref a), .val (.int (4 : Int32))] [(.ref r), (.int (z + (4 : Int32)))])) rfl rfl (hb hby d4_10) t_ k_) ?_
  by_cases hlt : (n.toInt32) < (z + (4 : Int32))
  · refine Go.via (B := T8.setTop (mkF m 14 #[.val (.ref a), .val (.int (4 : Int32))] [])) (fun t_ k_ => XS.icmpNo X8.here hx rfl (hb hby d4_11) rfl ((tlt hlt).2.2.2) k_) ?_
    rw [Int32.lt_iff_toInt_lt, hln, hz4'] at hlt
    refine Go.via (B := T8.setTop (mkF m 16 #[.val (.ref a), .val (.int (4 : Int32))] [(.ref a), (.ref a)])) (fun t_ k_ => ?_) ?_
    · show Steps p.tables e below (T8.setTop (mkF m 14 #[.val (.ref a), .val (.int (4 : Int32))] [])) t_
      refine XS.aloadN X8.here hx rfl (hb hby d4_14) rfl rfl ?_
      show Steps p.tables e below (T8.setTop (mkF m 15 #[.val (.ref a), .val (.int (4 : Int32))] [(.ref a)])) t_
      refine XS.aloadN X8.here hx rfl (hb hby d4_15) rfl rfl ?_
      show Steps p.tables e below (T8.setTop (mkF m 16 #[.val (.ref a), .val (.int (4 : Int32))] [(.ref a), (.ref a)])) t_
      exact k_
    obtain ⟨T9, X9, e9, st9⟩ := getF X8 hx hZ hown (host := "") (Or.inl (hw _ (List.mem_of_getElem? (i := 10) rfl))) Via.refl e8 H.2.1 (g := (mkF m 16 #[.val (.ref a), .val (.int (4 : Int32))] [(.ref a), (.ref a)])) rfl rfl (hb hby d4_16)
    refine Go.via st9 ?_
    show Go p.tables e below _ (T9.setTop (mkF m 19 #[.val (.ref a), .val (.int (4 : Int32))] [(.ref r), (.ref a)]))
    refine Go.via (B := T9.setTop (mkF m 20 #[.val (.ref a), .val (.int (4 : Int32))] [(.ref a), (.ref r), (.ref a)])) (fun t_ k_ => ?_) ?_
    · show Steps p.tables e below (T9.setTop (mkF m 19 #[.val (.ref a), .val (.int (4 : Int32))] [(.ref r), (.ref a)])) t_
      refine XS.aloadN X9.here hx rfl (hb hby d4_19) rfl rfl ?_
      show Steps p.tables e below (T9.setTop (mkF m 20 #[.val (.ref a), .val (.int (4 : Int32))] [(.ref a), (.ref r), (.ref a)])) t_
      exact k_
    obtain ⟨T10, X10, e10, st10⟩ := getF X9 hx hZ hown (host := "") (Or.inl (hw _ (List.mem_of_getElem? (i := 10) rfl))) Via.refl e9 H.2.1 (g := (mkF m 20 #[.val (.ref a), .val (.int (4 : Int32))] [(.ref a), (.ref r), (.ref a)])) rfl rfl (hb hby d4_20)
    refine Go.via st10 ?_
    show Go p.tables e below _ (T10.setTop (mkF m 23 #[.val (.ref a), .val (.int (4 : Int32))] [(.ref r), (.ref r), (.ref a)]))
    refine Go.via (B := T10.setTop (mkF m 24 #[.val (.ref a), .val (.int (4 : Int32))] [(.int (n.toInt32)), (.ref r), (.ref a)])) (fun t_ k_ => alen X10 hx hZ e10 H.2.2.2.1 (g := (mkF m 23 #[.val (.ref a), .val (.int (4 : Int32))] [(.ref r), (.ref r), (.ref a)])) rfl rfl (hb hby d4_23) t_ k_) ?_
    refine Go.via (B := T10.setTop (mkF m 27 #[.val (.ref a), .val (.int (4 : Int32))] [(.ref a), (.int ((n.toInt32) * (2 : Int32))), (.ref r), (.ref a)])) (fun t_ k_ => ?_) ?_
    · show Steps p.tables e below (T10.setTop (mkF m 24 #[.val (.ref a), .val (.int (4 : Int32))] [(.int (n.toInt32)), (.ref r), (.ref a)])) t_
      refine XS.iconst X10.here hx rfl (hb hby d4_24) ?_
      show Steps p.tables e below (T10.setTop (mkF m 25 #[.val (.ref a), .val (.int (4 : Int32))] [(.int (2 : Int32)), (.int (n.toInt32)), (.ref r), (.ref a)])) t_
      refine XS.imul X10.here hx rfl (hb hby d4_25) rfl ?_
      show Steps p.tables e below (T10.setTop (mkF m 26 #[.val (.ref a), .val (.int (4 : Int32))] [(.int ((n.toInt32) * (2 : Int32))), (.ref r), (.ref a)])) t_
      refine XS.aloadN X10.here hx rfl (hb hby d4_26) rfl rfl ?_
      show Steps p.tables e below (T10.setTop (mkF m 27 #[.val (.ref a), .val (.int (4 : Int32))] [(.ref a), (.int ((n.toInt32) * (2 : Int32))), (.ref r), (.ref a)])) t_
      exact k_
    obtain ⟨T11, X11, e11, st11⟩ := getF X10 hx hZ hown (host := "") (Or.inl (hw _ (List.mem_of_getElem? (i := 21) rfl))) Via.refl e10 H.2.2.1 (g := (mkF m 27 #[.val (.ref a), .val (.int (4 : Int32))] [(.ref a), (.int ((n.toInt32) * (2 : Int32))), (.ref r), (.ref a)])) rfl rfl (hb hby d4_27)
    refine Go.via st11 ?_
    show Go p.tables e below _ (T11.setTop (mkF m 30 #[.val (.ref a), .val (.int (4 : Int32))] [(.int z), (.int ((n.toInt32) * (2 : Int32))), (.ref r), (.ref a)]))
    refine Go.via (B := T11.setTop (mkF m 32 #[.val (.ref a), .val (.int (4 : Int32))] [(.int (z + (4 : Int32))), (.int ((n.toInt32) * (2 : Int32))), (.ref r), (.ref a)])) (fun t_ k_ => ?_) ?_
    · show Steps p.tables e below (T11.setTop (mkF m 30 #[.val (.ref a), .val (.int (4 : Int32))] [(.int z), (.int ((n.toInt32) * (2 : Int32))), (.ref r), (.ref a)])) t_
      refine XS.iloadN X11.here hx rfl (hb hby d4_30) rfl ?_
      show Steps p.tables e below (T11.setTop (mkF m 31 #[.val (.ref a), .val (.int (4 : Int32))] [(.int (4 : Int32)), (.int z), (.int ((n.toInt32) * (2 : Int32))), (.ref r), (.ref a)])) t_
      refine XS.iadd X11.here hx rfl (hb hby d4_31) rfl ?_
      show Steps p.tables e below (T11.setTop (mkF m 32 #[.val (.ref a), .val (.int (4 : Int32))] [(.int (z + (4 : Int32))), (.int ((n.toInt32) * (2 : Int32))), (.ref r), (.ref a)])) t_
      exact k_
    obtain ⟨_, _, ⟨T12, L12, k12, n12⟩, -, X12, ⟨Lc12, hQ12, l12, y12, z12⟩, st12⟩ := Jvm.LawKit.callS X11 hx (y := (⟨"java/lang/Math", "max", "(II)I"⟩ : MethodName)) hown (mvT hZ (hw _ (List.mem_of_getElem? (i := 23) rfl))) (mvT hZ (hw _ (List.mem_of_getElem? (i := 24) rfl))) (mvT hZ (hw _ (List.mem_of_getElem? (i := 25) rfl))) (mvT hZ (hw _ (List.mem_of_getElem? (i := 26) rfl))) (by decide) (backOf (W := 2) (rm5 l Z a0 hw [] ((n.toInt32) * (2 : Int32)) (z + (4 : Int32))  h0 n0 Z0 ) hZ (hw _ (List.mem_of_getElem? (i := 26) rfl)) (hw _ (List.mem_of_getElem? (i := 25) rfl)) (by decide) (by decide)) (g := (mkF m 32 #[.val (.ref a), .val (.int (4 : Int32))] [(.int (z + (4 : Int32))), (.int ((n.toInt32) * (2 : Int32))), (.ref r), (.ref a)])) rfl (by rw [hml]; rfl) (argsL := [(.int ((n.toInt32) * (2 : Int32))), (.int (z + (4 : Int32)))]) (rest := [(.ref r), (.ref a)]) (lenOf pd0 rfl) rfl (by show 2 * 0 + _ ≤ _; exact Nat.le_of_eq rfl) (hb hby d4_32) (fun _ _ => ⟨rfl, e11, (by decide : 0 + 0 ≤ _), (by decide : 0 + 0 ≤ _)⟩)
    dsimp only [Pt.U, Pt.locs, Pt.cells, Pt.slots] at X12 l12 y12 z12 st12 hQ12
    subst l12 y12 z12
    obtain ⟨rfl, N12q, e12⟩ := hQ12
    have N12 := Fr.app N0 N12q
    refine Go.via st12 ?_
    show Go p.tables e below _ (T12.setTop (mkF m 35 #[.val (.ref a), .val (.int (4 : Int32))] [(.int (F5_0 ((n.toInt32) * (2 : Int32)) (z + (4 : Int32)))), (.ref r), (.ref a)]))
    have hmx := own_mx hn hz0 hz4 hlt
    generalize F5_0 ((n.toInt32) * (2 : Int32)) (z + (4 : Int32)) = k at hmx ⊢
    obtain ⟨_, _, ⟨T13, L13, k13, n13⟩, -, X13, ⟨Lc13, hQ13, l13, y13, z13⟩, st13⟩ := Jvm.LawKit.callS X12 hx (y := (⟨"java/util/Arrays", "copyOf", "([BI)[B"⟩ : MethodName)) hown (mvT hZ (hw _ (List.mem_of_getElem? (i := 27) rfl))) (mvT hZ (hw _ (List.mem_of_getElem? (i := 28) rfl))) (mvT hZ (hw _ (List.mem_of_getElem? (i := 29) rfl))) (mvT hZ (hw _ (List.mem_of_getElem? (i := 30) rfl))) (by decide) (backOf (W := 1) (rm6 l Z a0 hw [] r k n f h0 n0 Z0 H.2.2.2.1 hmx.2.2.2 hmx.1 hmx.2.1) hZ (hw _ (List.mem_of_getElem? (i := 30) rfl)) (hw _ (List.mem_of_getElem? (i := 29) rfl)) (by decide) (by decide)) (g := (mkF m 35 #[.val (.ref a), .val (.int (4 : Int32))] [(.int k), (.ref r), (.ref a)])) rfl (by rw [hml]; rfl) (argsL := [(.ref r), (.int k)]) (rest := [(.ref a)]) (lenOf pd1 rfl) rfl (by show 2 * 0 + _ ≤ _; exact Nat.le_of_eq rfl) (hb hby d4_35) (fun _ _ => ⟨rfl, e12, (by decide : 0 + 1 ≤ _), (by decide : 0 + 15 ≤ _)⟩)
    dsimp only [Pt.U, Pt.locs, Pt.cells, Pt.slots] at X13 l13 y13 z13 st13 hQ13
    subst l13 y13 z13
    obtain ⟨r13, rfl, N13q, gr13, gs13, K13, V13⟩ := hQ13
    have N13 := Fr.app N12 N13q
    refine Go.via st13 ?_
    show Go p.tables e below _ (T13.setTop (mkF m 38 #[.val (.ref a), .val (.int (4 : Int32))] [(.ref r13), (.ref a)]))
    have nar : a ≠ r13 := Nat.ne_of_lt (Nat.lt_of_lt_of_le H.1.lt gs13)
    have E1 := H.1.keep K13
    have hkn := own_nat hmx.1
    have Z13 := Nat.le_trans Z0 K13.1
    obtain ⟨T14, h14, X14, e14, W14, st14⟩ := putF X13 hx hZ hown (host := "") (Or.inl (hw _ (List.mem_of_getElem? (i := 10) rfl))) Via.refl rfl (H.2.1.keep K13 nin0) E1 (Or.inl (hw _ (List.mem_of_getElem? (i := 11) rfl))) (hw _ (List.mem_of_getElem? (i := 1) rfl)) (ty := (.array .byte)) (by decide) rfl rfl (g := (mkF m 38 #[.val (.ref a), .val (.int (4 : Int32))] [(.ref r13), (.ref a)])) rfl rfl (hb hby d4_38)
    have N14 := Fr.snoc X14 N13 ga
    have Z14 : n0 ≤ h14.size := Nat.le_trans Z13 (Keep.of_wr W14).1
    refine Go.via st14 ?_
    show Go p.tables e below _ (T14.setTop (mkF m 41 #[.val (.ref a), .val (.int (4 : Int32))] []))
    exact Go.leave X14 hlk (v := none) (fun _ => rfl) (fun fs hr => X14.returnOut hx hrt (hb hby d4_41) hr) (by decide) (by decide) (⟨rfl, N14, r13, k.toNatClampNeg, _, gr13, BP.at e14 ⟨E1.wr W14, (H.2.1.keep K13 nin0).same W14, (H.2.2.1.keep K13 nin0).other W14 (Or.inr (slot_ne (Or.inl (hw _ (List.mem_of_getElem? (i := 22) rfl))) (Or.inl (hw _ (List.mem_of_getElem? (i := 11) rfl))) (by decide) (t := .int) (t' := (.array .byte)) (by decide) (by decide))), V13.other W14 (Ne.symm nar), nar⟩, by omega, by omega, fun i hi => if_pos (by omega)⟩)
  · refine Go.via (B := T8.setTop (mkF m 41 #[.val (.ref a), .val (.int (4 : Int32))] [])) (fun t_ k_ => XS.icmpYes X8.here hx rfl (pc0 := 11) (pc' := 41) rfl (hb hby d4_11) rfl ((flt hlt).2.2.2) (by decide) (by decide) k_) ?_
    rw [Int32.lt_iff_toInt_lt, hln, hz4'] at hlt
    exact Go.leave X8 hlk (v := none) (fun _ => rfl) (fun fs hr => X8.returnOut hx hrt (hb hby d4_41) hr) (by decide) (by decide) (⟨rfl, N0, r, n, f, gr, by rw [e8]; exact H, by omega, hn, fun _ _ => rfl⟩)
theorem d3_0 : decode prog_8_method_5_code 0 = .ok (.aload_n 0, 1) := by decide +kernel
theorem d3_1 : decode prog_8_method_5_code 1 = .ok (.iconst 4, 1) := by decide +kernel
theorem d3_2 : decode prog_8_method_5_code 2 = .ok (.invokevirtual 16, 3) := by decide +kernel
theorem d3_5 : decode prog_8_method_5_code 5 = .ok (.aload_n 0, 1) := by decide +kernel
theorem d3_6 : decode prog_8_method_5_code 6 = .ok (.getfield 12, 3) := by decide +kernel
theorem d3_9 : decode prog_8_method_5_code 9 = .ok (.aload_n 0, 1) := by decide +kernel
theorem d3_10 : decode prog_8_method_5_code 10 = .ok (.dup, 1) := by decide +kernel
theorem d3_11 : decode prog_8_method_5_code 11 = .ok (.getfield 19, 3) := by decide +kernel
theorem d3_14 : decode prog_8_method_5_code 14 = .ok (.dup_x1, 1) := by decide +kernel
theorem d3_15 : decode prog_8_method_5_code 15 = .ok (.iconst 1, 1) := by decide +kernel
theorem d3_16 : decode prog_8_method_5_code 16 = .ok (.iadd, 1) := by decide +kernel
theorem d3_17 : decode prog_8_method_5_code 17 = .ok (.putfield 19, 3) := by decide +kernel
theorem d3_20 : decode prog_8_method_5_code 20 = .ok (.iload_n 1, 1) := by decide +kernel
theorem d3_21 : decode prog_8_method_5_code 21 = .ok (.bipush 24, 2) := by decide +kernel
theorem d3_23 : decode prog_8_method_5_code 23 = .ok (.iushr, 1) := by decide +kernel
theorem d3_24 : decode prog_8_method_5_code 24 = .ok (.i2b, 1) := by decide +kernel
theorem d3_25 : decode prog_8_method_5_code 25 = .ok (.bastore, 1) := by decide +kernel
theorem d3_26 : decode prog_8_method_5_code 26 = .ok (.aload_n 0, 1) := by decide +kernel
theorem d3_27 : decode prog_8_method_5_code 27 = .ok (.getfield 12, 3) := by decide +kernel
theorem d3_30 : decode prog_8_method_5_code 30 = .ok (.aload_n 0, 1) := by decide +kernel
theorem d3_31 : decode prog_8_method_5_code 31 = .ok (.dup, 1) := by decide +kernel
theorem d3_32 : decode prog_8_method_5_code 32 = .ok (.getfield 19, 3) := by decide +kernel
theorem d3_35 : decode prog_8_method_5_code 35 = .ok (.dup_x1, 1) := by decide +kernel
theorem d3_36 : decode prog_8_method_5_code 36 = .ok (.iconst 1, 1) := by decide +kernel
theorem d3_37 : decode prog_8_method_5_code 37 = .ok (.iadd, 1) := by decide +kernel
theorem d3_38 : decode prog_8_method_5_code 38 = .ok (.putfield 19, 3) := by decide +kernel
theorem d3_41 : decode prog_8_method_5_code 41 = .ok (.iload_n 1, 1) := by decide +kernel
theorem d3_42 : decode prog_8_method_5_code 42 = .ok (.bipush 16, 2) := by decide +kernel
theorem d3_44 : decode prog_8_method_5_code 44 = .ok (.iushr, 1) := by decide +kernel
theorem d3_45 : decode prog_8_method_5_code 45 = .ok (.i2b, 1) := by decide +kernel
theorem d3_46 : decode prog_8_method_5_code 46 = .ok (.bastore, 1) := by decide +kernel
theorem d3_47 : decode prog_8_method_5_code 47 = .ok (.aload_n 0, 1) := by decide +kernel
theorem d3_48 : decode prog_8_method_5_code 48 = .ok (.getfield 12, 3) := by decide +kernel
theorem d3_51 : decode prog_8_method_5_code 51 = .ok (.aload_n 0, 1) := by decide +kernel
theorem d3_52 : decode prog_8_method_5_code 52 = .ok (.dup, 1) := by decide +kernel
theorem d3_53 : decode prog_8_method_5_code 53 = .ok (.getfield 19, 3) := by decide +kernel
theorem d3_56 : decode prog_8_method_5_code 56 = .ok (.dup_x1, 1) := by decide +kernel
theorem d3_57 : decode prog_8_method_5_code 57 = .ok (.iconst 1, 1) := by decide +kernel
theorem d3_58 : decode prog_8_method_5_code 58 = .ok (.iadd, 1) := by decide +kernel
theorem d3_59 : decode prog_8_method_5_code 59 = .ok (.putfield 19, 3) := by decide +kernel
theorem d3_62 : decode prog_8_method_5_code 62 = .ok (.iload_n 1, 1) := by decide +kernel
theorem d3_63 : decode prog_8_method_5_code 63 = .ok (.bipush 8, 2) := by decide +kernel
theorem d3_65 : decode prog_8_method_5_code 65 = .ok (.iushr, 1) := by decide +kernel
theorem d3_66 : decode prog_8_method_5_code 66 = .ok (.i2b, 1) := by decide +kernel
theorem d3_67 : decode prog_8_method_5_code 67 = .ok (.bastore, 1) := by decide +kernel
theorem d3_68 : decode prog_8_method_5_code 68 = .ok (.aload_n 0, 1) := by decide +kernel
theorem d3_69 : decode prog_8_method_5_code 69 = .ok (.getfield 12, 3) := by decide +kernel
theorem d3_72 : decode prog_8_method_5_code 72 = .ok (.aload_n 0, 1) := by decide +kernel
theorem d3_73 : decode prog_8_method_5_code 73 = .ok (.dup, 1) := by decide +kernel
theorem d3_74 : decode prog_8_method_5_code 74 = .ok (.getfield 19, 3) := by decide +kernel
theorem d3_77 : decode prog_8_method_5_code 77 = .ok (.dup_x1, 1) := by decide +kernel
theorem d3_78 : decode prog_8_method_5_code 78 = .ok (.iconst 1, 1) := by decide +kernel
theorem d3_79 : decode prog_8_method_5_code 79 = .ok (.iadd, 1) := by decide +kernel
theorem d3_80 : decode prog_8_method_5_code 80 = .ok (.putfield 19, 3) := by decide +kernel
theorem d3_83 : decode prog_8_method_5_code 83 = .ok (.iload_n 1, 1) := by decide +kernel
theorem d3_84 : decode prog_8_method_5_code 84 = .ok (.i2b, 1) := by decide +kernel
theorem d3_85 : decode prog_8_method_5_code 85 = .ok (.bastore, 1) := by decide +kernel
theorem d3_86 : decode prog_8_method_5_code 86 = .ok (.return_, 1) := by decide +kernel
theorem pn_3 : plainName "com/example/bytewright/bytewright/classfile/ByteWriter" = true := by first | (simp [plainName, overriddenIn]; done) | decide +kernel
theorem ef_3 (m : MethodId) (x0 : Addr) (x1 : Int32) : entryFrame m #[(.ref x0), (.int x1)] 2 = mkF m 0 #[.val (.ref x0), .val (.int x1)] [] := by first | (simp [entryFrame, mkF, argsToLocals, Value.category]; done) | rfl
def Q3 (Z : State) (a : Addr) (v : Int32) (r : Addr) (n : Nat) (f : Nat → Int32) (z : Int32) (h0 : Heap) (n0 : Nat) (v' : Option Value) (h : Heap) (L : List Loc) : Prop := v' = none ∧ Fr n0 L ∧ ∃ (r' : Addr) (n' : Nat) (f' : Nat → Int32), n0 ≤ r' ∧ BP Z h a r' n' f' (z + 4) ∧ z.toInt + 4 ≤ n' ∧ n' ≤ 15 ∧ (∀ i : Nat, (i : Int) < z.toInt → f' i = f i) ∧ f' (z.toNatClampNeg + 0) = own_byte v 0 ∧ f' (z.toNatClampNeg + 1) = own_byte v 1 ∧ f' (z.toNatClampNeg + 2) = own_byte v 2 ∧ f' (z.toNatClampNeg + 3) = own_byte v 3
set_option maxRecDepth 65536 in
set_option maxHeartbeats 40000000 in
theorem rm3 (l : Launch) (Z : State) (a0 : Array Value) (hw : ∀ d ∈ tables_1, d.before a0 Z = true) (ws : List Jvm.Cond) (a : Addr) (v : Int32) (r : Addr) (n : Nat) (f : Nat → Int32) (z : Int32) (h0 : Heap) (n0 : Nat) (Z0 : n0 ≤ h0.size) (H : BP Z h0 a r n f z) (ga : n0 ≤ a) (gr : n0 ≤ r) (hz0 : 0 ≤ z.toInt) (hz4 : z.toInt ≤ 4) (hn : n ≤ 15) (hzn : z.toInt ≤ n) :
    MetFree l (⟨"com/example/bytewright/bytewright/classfile/ByteWriter", "u4", "(I)V"⟩ : MethodName) (head1 (Jvm.Cond.code (⟨"com/example/bytewright/bytewright/classfile/ByteWriter", "u4", "(I)V"⟩ : MethodName) prog_8_method_5_code 2 none :: ws) ({ frames := 3, cells := 1, slots := 15, locals := 96 } : Room)) (fun a_ U_ => a_ = #[(.ref a), (.int v)] ∧ Z.Warmed39 U_.vm ∧ U_.heap = h0) (fun _ _ _ _ _ => True) (fun _ U_ o_ V_ => ∃ v_ L_, o_ = .returned v_ ∧ Q3 Z a v r n f z h0 n0 v_ V_.heap L_ ∧ FrameEnd U_ o_ V_ L_ ({ frames := 3, cells := 1, slots := 15, locals := 96 } : Room).cells ({ frames := 3, cells := 1, slots := 15, locals := 96 } : Room).slots) := by
  refine MetFree.of_bodySF (plainFor_of_name pn_3) hisR ?_
  intro p e s m args below meth c s₁ Bd hml0 hP hK
  obtain ⟨rfl, hZ, hh⟩ := hP
  have hx := Bd.exec
  have hby := Bd.bytes
  have hml : c.maxLocals = 2 := hml0
  have hown : s.vm.findClass "com/example/bytewright/bytewright/classfile/ByteWriter" = some m.cls := findClass_of_methodNamed Bd.named
  have hnm := (name_of_methodNamed Bd.named Bd.method).1
  have hlk : meth.locks = false := BodyLoose.notSynchronized Bd
  have hrt := Bd.returns
  have X0 : Stand p l e ({ frames := 3, cells := 1, slots := 15, locals := 96 } : Room) s m #[(.ref a), (.int v)] below meth c s₁ [] 0 0 := Stand.of_body Bd
  have e0 : s₁.heap = h0 := by rw [← hh, Bd.state]; rfl
  have N0 := Fr.nil n0
  show Go p.tables e below (PQ s below (Q3 Z a v r n f z h0 n0) 1 15) _
  refine Go.via (B := s₁.setTop (mkF m 0 #[.val (.ref a), .val (.int v)] [])) (fun t_ k_ => castTop (ef_3 m a v) k_) ?_
  refine Go.via (B := s₁.setTop (mkF m 2 #[.val (.ref a), .val (.int v)] [(.int (4 : Int32)), (.ref a)])) (fun t_ k_ => ?_) ?_
  · show Steps p.tables e below (s₁.setTop (mkF m 0 #[.val (.ref a), .val (.int v)] [])) t_
    refine XS.aloadN X0.here hx rfl (hb hby d3_0) rfl rfl ?_
    show Steps p.tables e below (s₁.setTop (mkF m 1 #[.val (.ref a), .val (.int v)] [(.ref a)])) t_
    refine XS.iconst X0.here hx rfl (hb hby d3_1) ?_
    show Steps p.tables e below (s₁.setTop (mkF m 2 #[.val (.ref a), .val (.int v)] [(.int (4 : Int32)), (.ref a)])) t_
    exact k_
  obtain ⟨cq15, q15, q15'⟩ := H.1.cell
  obtain ⟨_, _, ⟨T15, L15, k15, n15⟩, -, X15, ⟨Lc15, hQ15, l15, y15, z15⟩, st15⟩ := X0.privateBack hx (y := (⟨"com/example/bytewright/bytewright/classfile/ByteWriter", "ensure", "(I)V"⟩ : MethodName)) hown (mvT hZ (hw _ (List.mem_of_getElem? (i := 17) rfl))) (mvT hZ (hw _ (List.mem_of_getElem? (i := 18) rfl))) (own_sel (mvT hZ (hw _ (List.mem_of_getElem? (i := 15) rfl))) rfl (mvP hZ (hw _ (List.mem_of_getElem? (i := 19) rfl))) (mvT hZ (hw _ (List.mem_of_getElem? (i := 18) rfl))) (by decide)) (Cond.privateMethod_at (mvP hZ (hw _ (List.mem_of_getElem? (i := 19) rfl)) (args := #[]))) (mvT hZ (hw _ (List.mem_of_getElem? (i := 20) rfl))) (by decide) (backOf (W := 0) (rm4 l Z a0 hw [] a (4 : Int32) r n f z h0 n0 Z0 H ga gr rfl hz0 hz4 hn hzn) hZ (hw _ (List.mem_of_getElem? (i := 20) rfl)) (hw _ (List.mem_of_getElem? (i := 2) rfl)) (by decide) (by decide)) (g := (mkF m 2 #[.val (.ref a), .val (.int v)] [(.int (4 : Int32)), (.ref a)])) rfl (by rw [hml]; rfl) (Steps.refl _) (a := a) (by rw [e0]; exact q15) q15' (argsL := [(.int (4 : Int32))]) (rest := []) (lenOf pd2 rfl) rfl (by show 2 * 0 + _ ≤ _; exact Nat.le_of_eq rfl) (hb hby d3_2) (fun _ _ => ⟨rfl, e0, (by decide : 0 + 1 ≤ _), (by decide : 0 + 15 ≤ _)⟩)
  dsimp only [Pt.U, Pt.locs, Pt.cells, Pt.slots] at X15 l15 y15 z15 st15 hQ15
  subst l15 y15 z15
  obtain ⟨rfl, N15q, r15, n15', f15, gr15, H15, hb15, hc15, hd15⟩ := hQ15
  have N15 := Fr.app N0 N15q
  refine Go.via (fun t_ k_ => st15.trans k_) ?_
  show Go p.tables e below _ (T15.setTop (mkF m 5 #[.val (.ref a), .val (.int v)] []))
  have Z15 := H15.ge ga
  have hz := own_nat hz0
  have hq1 : (z + (1 : Int32)).toInt = z.toInt + 1 := own_small (k := 1) hz0 (by omega) (by decide)
  have hm1 := own_nat (x := z + (1 : Int32)) (by omega)
  have hq2 : (z + (2 : Int32)).toInt = z.toInt + 2 := own_small (k := 2) hz0 (by omega) (by decide)
  have hm2 := own_nat (x := z + (2 : Int32)) (by omega)
  have hq3 : (z + (3 : Int32)).toInt = z.toInt + 3 := own_small (k := 3) hz0 (by omega) (by decide)
  have hm3 := own_nat (x := z + (3 : Int32)) (by omega)
  have hq4 : (z + (4 : Int32)).toInt = z.toInt + 4 := own_small (k := 4) hz0 (by omega) (by decide)
  have hm4 := own_nat (x := z + (4 : Int32)) (by omega)
  have ha1 : ∀ u : Int32, u + 1 + 1 = u + 2 := fun u => by rw [Int32.add_assoc]; rfl
  have ha2 : ∀ u : Int32, u + 2 + 1 = u + 3 := fun u => by rw [Int32.add_assoc]; rfl
  have ha3 : ∀ u : Int32, u + 3 + 1 = u + 4 := fun u => by rw [Int32.add_assoc]; rfl
  refine Go.via (B := T15.setTop (mkF m 6 #[.val (.ref a), .val (.int v)] [(.ref a)])) (fun t_ k_ => ?_) ?_
  · show Steps p.tables e below (T15.setTop (mkF m 5 #[.val (.ref a), .val (.int v)] [])) t_
    refine XS.aloadN X15.here hx rfl (hb hby d3_5) rfl rfl ?_
    show Steps p.tables e below (T15.setTop (mkF m 6 #[.val (.ref a), .val (.int v)] [(.ref a)])) t_
    exact k_
  obtain ⟨T16, X16, e16, st16⟩ := getF X15 hx hZ hown (host := "") (Or.inl (hw _ (List.mem_of_getElem? (i := 10) rfl))) Via.refl rfl H15.2.1 (g := (mkF m 6 #[.val (.ref a), .val (.int v)] [(.ref a)])) rfl rfl (hb hby d3_6)
  refine Go.via st16 ?_
  show Go p.tables e below _ (T16.setTop (mkF m 9 #[.val (.ref a), .val (.int v)] [(.ref r15)]))
  refine Go.via (B := T16.setTop (mkF m 11 #[.val (.ref a), .val (.int v)] [(.ref a), (.ref a), (.ref r15)])) (fun t_ k_ => ?_) ?_
  · show Steps p.tables e below (T16.setTop (mkF m 9 #[.val (.ref a), .val (.int v)] [(.ref r15)])) t_
    refine XS.aloadN X16.here hx rfl (hb hby d3_9) rfl rfl ?_
    show Steps p.tables e below (T16.setTop (mkF m 10 #[.val (.ref a), .val (.int v)] [(.ref a), (.ref r15)])) t_
    refine XS.dup X16.here hx rfl (hb hby d3_10) rfl rfl ?_
    show Steps p.tables e below (T16.setTop (mkF m 11 #[.val (.ref a), .val (.int v)] [(.ref a), (.ref a), (.ref r15)])) t_
    exact k_
  obtain ⟨T17, X17, e17, st17⟩ := getF X16 hx hZ hown (host := "") (Or.inl (hw _ (List.mem_of_getElem? (i := 21) rfl))) Via.refl e16 H15.2.2.1 (g := (mkF m 11 #[.val (.ref a), .val (.int v)] [(.ref a), (.ref a), (.ref r15)])) rfl rfl (hb hby d3_11)
  refine Go.via st17 ?_
  show Go p.tables e below _ (T17.setTop (mkF m 14 #[.val (.ref a), .val (.int v)] [(.int z), (.ref a), (.ref r15)]))
  refine Go.via (B := T17.setTop (mkF m 17 #[.val (.ref a), .val (.int v)] [(.int (z + (1 : Int32))), (.ref a), (.int z), (.ref r15)])) (fun t_ k_ => ?_) ?_
  · show Steps p.tables e below (T17.setTop (mkF m 14 #[.val (.ref a), .val (.int v)] [(.int z), (.ref a), (.ref r15)])) t_
    refine XS.dupX1 X17.here hx rfl (hb hby d3_14) rfl rfl rfl ?_
    show Steps p.tables e below (T17.setTop (mkF m 15 #[.val (.ref a), .val (.int v)] [(.int z), (.ref a), (.int z), (.ref r15)])) t_
    refine XS.iconst X17.here hx rfl (hb hby d3_15) ?_
    show Steps p.tables e below (T17.setTop (mkF m 16 #[.val (.ref a), .val (.int v)] [(.int (1 : Int32)), (.int z), (.ref a), (.int z), (.ref r15)])) t_
    refine XS.iadd X17.here hx rfl (hb hby d3_16) rfl ?_
    show Steps p.tables e below (T17.setTop (mkF m 17 #[.val (.ref a), .val (.int v)] [(.int (z + (1 : Int32))), (.ref a), (.int z), (.ref r15)])) t_
    exact k_
  obtain ⟨T18, h18, X18, e18, W18, st18⟩ := putF X17 hx hZ hown (host := "") (Or.inl (hw _ (List.mem_of_getElem? (i := 21) rfl))) Via.refl e17 H15.2.2.1 H15.1 (Or.inl (hw _ (List.mem_of_getElem? (i := 22) rfl))) (hw _ (List.mem_of_getElem? (i := 1) rfl)) (ty := .int) (by decide) rfl rfl (g := (mkF m 17 #[.val (.ref a), .val (.int v)] [(.int (z + (1 : Int32))), (.ref a), (.int z), (.ref r15)])) rfl rfl (hb hby d3_17)
  have N18 := Fr.snoc X18 N15 ga
  have Z18 : n0 ≤ h18.size := Nat.le_trans Z15 (Keep.of_wr W18).1
  refine Go.via st18 ?_
  show Go p.tables e below _ (T18.setTop (mkF m 20 #[.val (.ref a), .val (.int v)] [(.int z), (.ref r15)]))
  have H18 := H15.put_size hw W18
  clear W18
  refine Go.via (B := T18.setTop (mkF m 25 #[.val (.ref a), .val (.int v)] [(.int (((v.toUInt32 >>> ((24 : Int32) &&& 31).toUInt32).toInt32).toInt8.toInt32)), (.int z), (.ref r15)])) (fun t_ k_ => ?_) ?_
  · show Steps p.tables e below (T18.setTop (mkF m 20 #[.val (.ref a), .val (.int v)] [(.int z), (.ref r15)])) t_
    refine XS.iloadN X18.here hx rfl (hb hby d3_20) rfl ?_
    show Steps p.tables e below (T18.setTop (mkF m 21 #[.val (.ref a), .val (.int v)] [(.int v), (.int z), (.ref r15)])) t_
    refine XS.bipush X18.here hx rfl (hb hby d3_21) ?_
    show Steps p.tables e below (T18.setTop (mkF m 23 #[.val (.ref a), .val (.int v)] [(.int (24 : Int32)), (.int v), (.int z), (.ref r15)])) t_
    refine XS.iushr X18.here hx rfl (hb hby d3_23) rfl ?_
    show Steps p.tables e below (T18.setTop (mkF m 24 #[.val (.ref a), .val (.int v)] [(.int ((v.toUInt32 >>> ((24 : Int32) &&& 31).toUInt32).toInt32)), (.int z), (.ref r15)])) t_
    refine XS.i2b X18.here hx rfl (hb hby d3_24) rfl ?_
    show Steps p.tables e below (T18.setTop (mkF m 25 #[.val (.ref a), .val (.int v)] [(.int (((v.toUInt32 >>> ((24 : Int32) &&& 31).toUInt32).toInt32).toInt8.toInt32)), (.int z), (.ref r15)])) t_
    exact k_
  obtain ⟨T19, h19, L19, X19, e19, N19, W19, V19, st19⟩ := aputB X18 hx hZ e18 H18.2.2.2.1 N18 gr15 hz.1 (by omega) (g := (mkF m 25 #[.val (.ref a), .val (.int v)] [(.int (((v.toUInt32 >>> ((24 : Int32) &&& 31).toUInt32).toInt32).toInt8.toInt32)), (.int z), (.ref r15)])) rfl rfl (hb hby d3_25)
  have H19 := H18.store W19 V19
  have Z19 := H19.ge ga
  clear W19 V19
  refine Go.via st19 ?_
  show Go p.tables e below _ (T19.setTop (mkF m 26 #[.val (.ref a), .val (.int v)] []))
  refine Go.via (B := T19.setTop (mkF m 27 #[.val (.ref a), .val (.int v)] [(.ref a)])) (fun t_ k_ => ?_) ?_
  · show Steps p.tables e below (T19.setTop (mkF m 26 #[.val (.ref a), .val (.int v)] [])) t_
    refine XS.aloadN X19.here hx rfl (hb hby d3_26) rfl rfl ?_
    show Steps p.tables e below (T19.setTop (mkF m 27 #[.val (.ref a), .val (.int v)] [(.ref a)])) t_
    exact k_
  obtain ⟨T20, X20, e20, st20⟩ := getF X19 hx hZ hown (host := "") (Or.inl (hw _ (List.mem_of_getElem? (i := 10) rfl))) Via.refl e19 H19.2.1 (g := (mkF m 27 #[.val (.ref a), .val (.int v)] [(.ref a)])) rfl rfl (hb hby d3_27)
  refine Go.via st20 ?_
  show Go p.tables e below _ (T20.setTop (mkF m 30 #[.val (.ref a), .val (.int v)] [(.ref r15)]))
  refine Go.via (B := T20.setTop (mkF m 32 #[.val (.ref a), .val (.int v)] [(.ref a), (.ref a), (.ref r15)])) (fun t_ k_ => ?_) ?_
  · show Steps p.tables e below (T20.setTop (mkF m 30 #[.val (.ref a), .val (.int v)] [(.ref r15)])) t_
    refine XS.aloadN X20.here hx rfl (hb hby d3_30) rfl rfl ?_
    show Steps p.tables e below (T20.setTop (mkF m 31 #[.val (.ref a), .val (.int v)] [(.ref a), (.ref r15)])) t_
    refine XS.dup X20.here hx rfl (hb hby d3_31) rfl rfl ?_
    show Steps p.tables e below (T20.setTop (mkF m 32 #[.val (.ref a), .val (.int v)] [(.ref a), (.ref a), (.ref r15)])) t_
    exact k_
  obtain ⟨T21, X21, e21, st21⟩ := getF X20 hx hZ hown (host := "") (Or.inl (hw _ (List.mem_of_getElem? (i := 21) rfl))) Via.refl e20 H19.2.2.1 (g := (mkF m 32 #[.val (.ref a), .val (.int v)] [(.ref a), (.ref a), (.ref r15)])) rfl rfl (hb hby d3_32)
  refine Go.via st21 ?_
  show Go p.tables e below _ (T21.setTop (mkF m 35 #[.val (.ref a), .val (.int v)] [(.int (z + (1 : Int32))), (.ref a), (.ref r15)]))
  refine Go.via (B := T21.setTop (mkF m 38 #[.val (.ref a), .val (.int v)] [(.int ((z + (1 : Int32)) + (1 : Int32))), (.ref a), (.int (z + (1 : Int32))), (.ref r15)])) (fun t_ k_ => ?_) ?_
  · show Steps p.tables e below (T21.setTop (mkF m 35 #[.val (.ref a), .val (.int v)] [(.int (z + (1 : Int32))), (.ref a), (.ref r15)])) t_
    refine XS.dupX1 X21.here hx rfl (hb hby d3_35) rfl rfl rfl ?_
    show Steps p.tables e below (T21.setTop (mkF m 36 #[.val (.ref a), .val (.int v)] [(.int (z + (1 : Int32))), (.ref a), (.int (z + (1 : Int32))), (.ref r15)])) t_
    refine XS.iconst X21.here hx rfl (hb hby d3_36) ?_
    show Steps p.tables e below (T21.setTop (mkF m 37 #[.val (.ref a), .val (.int v)] [(.int (1 : Int32)), (.int (z + (1 : Int32))), (.ref a), (.int (z + (1 : Int32))), (.ref r15)])) t_
    refine XS.iadd X21.here hx rfl (hb hby d3_37) rfl ?_
    show Steps p.tables e below (T21.setTop (mkF m 38 #[.val (.ref a), .val (.int v)] [(.int ((z + (1 : Int32)) + (1 : Int32))), (.ref a), (.int (z + (1 : Int32))), (.ref r15)])) t_
    exact k_
  rw [ha1]
  show Go p.tables e below _ (T21.setTop (mkF m 38 #[.val (.ref a), .val (.int v)] [(.int (z + (2 : Int32))), (.ref a), (.int (z + (1 : Int32))), (.ref r15)]))
  obtain ⟨T22, h22, X22, e22, W22, st22⟩ := putF X21 hx hZ hown (host := "") (Or.inl (hw _ (List.mem_of_getElem? (i := 21) rfl))) Via.refl e21 H19.2.2.1 H19.1 (Or.inl (hw _ (List.mem_of_getElem? (i := 22) rfl))) (hw _ (List.mem_of_getElem? (i := 1) rfl)) (ty := .int) (by decide) rfl rfl (g := (mkF m 38 #[.val (.ref a), .val (.int v)] [(.int (z + (2 : Int32))), (.ref a), (.int (z + (1 : Int32))), (.ref r15)])) rfl rfl (hb hby d3_38)
  have N22 := Fr.snoc X22 N19 ga
  have Z22 : n0 ≤ h22.size := Nat.le_trans Z19 (Keep.of_wr W22).1
  refine Go.via st22 ?_
  show Go p.tables e below _ (T22.setTop (mkF m 41 #[.val (.ref a), .val (.int v)] [(.int (z + (1 : Int32))), (.ref r15)]))
  have H22 := H19.put_size hw W22
  clear W22
  refine Go.via (B := T22.setTop (mkF m 46 #[.val (.ref a), .val (.int v)] [(.int (((v.toUInt32 >>> ((16 : Int32) &&& 31).toUInt32).toInt32).toInt8.toInt32)), (.int (z + (1 : Int32))), (.ref r15)])) (fun t_ k_ => ?_) ?_
  · show Steps p.tables e below (T22.setTop (mkF m 41 #[.val (.ref a), .val (.int v)] [(.int (z + (1 : Int32))), (.ref r15)])) t_
    refine XS.iloadN X22.here hx rfl (hb hby d3_41) rfl ?_
    show Steps p.tables e below (T22.setTop (mkF m 42 #[.val (.ref a), .val (.int v)] [(.int v), (.int (z + (1 : Int32))), (.ref r15)])) t_
    refine XS.bipush X22.here hx rfl (hb hby d3_42) ?_
    show Steps p.tables e below (T22.setTop (mkF m 44 #[.val (.ref a), .val (.int v)] [(.int (16 : Int32)), (.int v), (.int (z + (1 : Int32))), (.ref r15)])) t_
    refine XS.iushr X22.here hx rfl (hb hby d3_44) rfl ?_
    show Steps p.tables e below (T22.setTop (mkF m 45 #[.val (.ref a), .val (.int v)] [(.int ((v.toUInt32 >>> ((16 : Int32) &&& 31).toUInt32).toInt32)), (.int (z + (1 : Int32))), (.ref r15)])) t_
    refine XS.i2b X22.here hx rfl (hb hby d3_45) rfl ?_
    show Steps p.tables e below (T22.setTop (mkF m 46 #[.val (.ref a), .val (.int v)] [(.int (((v.toUInt32 >>> ((16 : Int32) &&& 31).toUInt32).toInt32).toInt8.toInt32)), (.int (z + (1 : Int32))), (.ref r15)])) t_
    exact k_
  obtain ⟨T23, h23, L23, X23, e23, N23, W23, V23, st23⟩ := aputB X22 hx hZ e22 H22.2.2.2.1 N22 gr15 hm1.1 (by omega) (g := (mkF m 46 #[.val (.ref a), .val (.int v)] [(.int (((v.toUInt32 >>> ((16 : Int32) &&& 31).toUInt32).toInt32).toInt8.toInt32)), (.int (z + (1 : Int32))), (.ref r15)])) rfl rfl (hb hby d3_46)
  have H23 := H22.store W23 V23
  have Z23 := H23.ge ga
  clear W23 V23
  refine Go.via st23 ?_
  show Go p.tables e below _ (T23.setTop (mkF m 47 #[.val (.ref a), .val (.int v)] []))
  refine Go.via (B := T23.setTop (mkF m 48 #[.val (.ref a), .val (.int v)] [(.ref a)])) (fun t_ k_ => ?_) ?_
  · show Steps p.tables e below (T23.setTop (mkF m 47 #[.val (.ref a), .val (.int v)] [])) t_
    refine XS.aloadN X23.here hx rfl (hb hby d3_47) rfl rfl ?_
    show Steps p.tables e below (T23.setTop (mkF m 48 #[.val (.ref a), .val (.int v)] [(.ref a)])) t_
    exact k_
  obtain ⟨T24, X24, e24, st24⟩ := getF X23 hx hZ hown (host := "") (Or.inl (hw _ (List.mem_of_getElem? (i := 10) rfl))) Via.refl e23 H23.2.1 (g := (mkF m 48 #[.val (.ref a), .val (.int v)] [(.ref a)])) rfl rfl (hb hby d3_48)
  refine Go.via st24 ?_
  show Go p.tables e below _ (T24.setTop (mkF m 51 #[.val (.ref a), .val (.int v)] [(.ref r15)]))
  refine Go.via (B := T24.setTop (mkF m 53 #[.val (.ref a), .val (.int v)] [(.ref a), (.ref a), (.ref r15)])) (fun t_ k_ => ?_) ?_
  · show Steps p.tables e below (T24.setTop (mkF m 51 #[.val (.ref a), .val (.int v)] [(.ref r15)])) t_
    refine XS.aloadN X24.here hx rfl (hb hby d3_51) rfl rfl ?_
    show Steps p.tables e below (T24.setTop (mkF m 52 #[.val (.ref a), .val (.int v)] [(.ref a), (.ref r15)])) t_
    refine XS.dup X24.here hx rfl (hb hby d3_52) rfl rfl ?_
    show Steps p.tables e below (T24.setTop (mkF m 53 #[.val (.ref a), .val (.int v)] [(.ref a), (.ref a), (.ref r15)])) t_
    exact k_
  obtain ⟨T25, X25, e25, st25⟩ := getF X24 hx hZ hown (host := "") (Or.inl (hw _ (List.mem_of_getElem? (i := 21) rfl))) Via.refl e24 H23.2.2.1 (g := (mkF m 53 #[.val (.ref a), .val (.int v)] [(.ref a), (.ref a), (.ref r15)])) rfl rfl (hb hby d3_53)
  refine Go.via st25 ?_
  show Go p.tables e below _ (T25.setTop (mkF m 56 #[.val (.ref a), .val (.int v)] [(.int (z + (2 : Int32))), (.ref a), (.ref r15)]))
  refine Go.via (B := T25.setTop (mkF m 59 #[.val (.ref a), .val (.int v)] [(.int ((z + (2 : Int32)) + (1 : Int32))), (.ref a), (.int (z + (2 : Int32))), (.ref r15)])) (fun t_ k_ => ?_) ?_
  · show Steps p.tables e below (T25.setTop (mkF m 56 #[.val (.ref a), .val (.int v)] [(.int (z + (2 : Int32))), (.ref a), (.ref r15)])) t_
    refine XS.dupX1 X25.here hx rfl (hb hby d3_56) rfl rfl rfl ?_
    show Steps p.tables e below (T25.setTop (mkF m 57 #[.val (.ref a), .val (.int v)] [(.int (z + (2 : Int32))), (.ref a), (.int (z + (2 : Int32))), (.ref r15)])) t_
    refine XS.iconst X25.here hx rfl (hb hby d3_57) ?_
    show Steps p.tables e below (T25.setTop (mkF m 58 #[.val (.ref a), .val (.int v)] [(.int (1 : Int32)), (.int (z + (2 : Int32))), (.ref a), (.int (z + (2 : Int32))), (.ref r15)])) t_
    refine XS.iadd X25.here hx rfl (hb hby d3_58) rfl ?_
    show Steps p.tables e below (T25.setTop (mkF m 59 #[.val (.ref a), .val (.int v)] [(.int ((z + (2 : Int32)) + (1 : Int32))), (.ref a), (.int (z + (2 : Int32))), (.ref r15)])) t_
    exact k_
  rw [ha2]
  show Go p.tables e below _ (T25.setTop (mkF m 59 #[.val (.ref a), .val (.int v)] [(.int (z + (3 : Int32))), (.ref a), (.int (z + (2 : Int32))), (.ref r15)]))
  obtain ⟨T26, h26, X26, e26, W26, st26⟩ := putF X25 hx hZ hown (host := "") (Or.inl (hw _ (List.mem_of_getElem? (i := 21) rfl))) Via.refl e25 H23.2.2.1 H23.1 (Or.inl (hw _ (List.mem_of_getElem? (i := 22) rfl))) (hw _ (List.mem_of_getElem? (i := 1) rfl)) (ty := .int) (by decide) rfl rfl (g := (mkF m 59 #[.val (.ref a), .val (.int v)] [(.int (z + (3 : Int32))), (.ref a), (.int (z + (2 : Int32))), (.ref r15)])) rfl rfl (hb hby d3_59)
  have N26 := Fr.snoc X26 N23 ga
  have Z26 : n0 ≤ h26.size := Nat.le_trans Z23 (Keep.of_wr W26).1
  refine Go.via st26 ?_
  show Go p.tables e below _ (T26.setTop (mkF m 62 #[.val (.ref a), .val (.int v)] [(.int (z + (2 : Int32))), (.ref r15)]))
  have H26 := H23.put_size hw W26
  clear W26
  refine Go.via (B := T26.setTop (mkF m 67 #[.val (.ref a), .val (.int v)] [(.int (((v.toUInt32 >>> ((8 : Int32) &&& 31).toUInt32).toInt32).toInt8.toInt32)), (.int (z + (2 : Int32))), (.ref r15)])) (fun t_ k_ => ?_) ?_
  · show Steps p.tables e below (T26.setTop (mkF m 62 #[.val (.ref a), .val (.int v)] [(.int (z + (2 : Int32))), (.ref r15)])) t_
    refine XS.iloadN X26.here hx rfl (hb hby d3_62) rfl ?_
    show Steps p.tables e below (T26.setTop (mkF m 63 #[.val (.ref a), .val (.int v)] [(.int v), (.int (z + (2 : Int32))), (.ref r15)])) t_
    refine XS.bipush X26.here hx rfl (hb hby d3_63) ?_
    show Steps p.tables e below (T26.setTop (mkF m 65 #[.val (.ref a), .val (.int v)] [(.int (8 : Int32)), (.int v), (.int (z + (2 : Int32))), (.ref r15)])) t_
    refine XS.iushr X26.here hx rfl (hb hby d3_65) rfl ?_
    show Steps p.tables e below (T26.setTop (mkF m 66 #[.val (.ref a), .val (.int v)] [(.int ((v.toUInt32 >>> ((8 : Int32) &&& 31).toUInt32).toInt32)), (.int (z + (2 : Int32))), (.ref r15)])) t_
    refine XS.i2b X26.here hx rfl (hb hby d3_66) rfl ?_
    show Steps p.tables e below (T26.setTop (mkF m 67 #[.val (.ref a), .val (.int v)] [(.int (((v.toUInt32 >>> ((8 : Int32) &&& 31).toUInt32).toInt32).toInt8.toInt32)), (.int (z + (2 : Int32))), (.ref r15)])) t_
    exact k_
  obtain ⟨T27, h27, L27, X27, e27, N27, W27, V27, st27⟩ := aputB X26 hx hZ e26 H26.2.2.2.1 N26 gr15 hm2.1 (by omega) (g := (mkF m 67 #[.val (.ref a), .val (.int v)] [(.int (((v.toUInt32 >>> ((8 : Int32) &&& 31).toUInt32).toInt32).toInt8.toInt32)), (.int (z + (2 : Int32))), (.ref r15)])) rfl rfl (hb hby d3_67)
  have H27 := H26.store W27 V27
  have Z27 := H27.ge ga
  clear W27 V27
  refine Go.via st27 ?_
  show Go p.tables e below _ (T27.setTop (mkF m 68 #[.val (.ref a), .val (.int v)] []))
  refine Go.via (B := T27.setTop (mkF m 69 #[.val (.ref a), .val (.int v)] [(.ref a)])) (fun t_ k_ => ?_) ?_
  · show Steps p.tables e below (T27.setTop (mkF m 68 #[.val (.ref a), .val (.int v)] [])) t_
    refine XS.aloadN X27.here hx rfl (hb hby d3_68) rfl rfl ?_
    show Steps p.tables e below (T27.setTop (mkF m 69 #[.val (.ref a), .val (.int v)] [(.ref a)])) t_
    exact k_
  obtain ⟨T28, X28, e28, st28⟩ := getF X27 hx hZ hown (host := "") (Or.inl (hw _ (List.mem_of_getElem? (i := 10) rfl))) Via.refl e27 H27.2.1 (g := (mkF m 69 #[.val (.ref a), .val (.int v)] [(.ref a)])) rfl rfl (hb hby d3_69)
  refine Go.via st28 ?_
  show Go p.tables e below _ (T28.setTop (mkF m 72 #[.val (.ref a), .val (.int v)] [(.ref r15)]))
  refine Go.via (B := T28.setTop (mkF m 74 #[.val (.ref a), .val (.int v)] [(.ref a), (.ref a), (.ref r15)])) (fun t_ k_ => ?_) ?_
  · show Steps p.tables e below (T28.setTop (mkF m 72 #[.val (.ref a), .val (.int v)] [(.ref r15)])) t_
    refine XS.aloadN X28.here hx rfl (hb hby d3_72) rfl rfl ?_
    show Steps p.tables e below (T28.setTop (mkF m 73 #[.val (.ref a), .val (.int v)] [(.ref a), (.ref r15)])) t_
    refine XS.dup X28.here hx rfl (hb hby d3_73) rfl rfl ?_
    show Steps p.tables e below (T28.setTop (mkF m 74 #[.val (.ref a), .val (.int v)] [(.ref a), (.ref a), (.ref r15)])) t_
    exact k_
  obtain ⟨T29, X29, e29, st29⟩ := getF X28 hx hZ hown (host := "") (Or.inl (hw _ (List.mem_of_getElem? (i := 21) rfl))) Via.refl e28 H27.2.2.1 (g := (mkF m 74 #[.val (.ref a), .val (.int v)] [(.ref a), (.ref a), (.ref r15)])) rfl rfl (hb hby d3_74)
  refine Go.via st29 ?_
  show Go p.tables e below _ (T29.setTop (mkF m 77 #[.val (.ref a), .val (.int v)] [(.int (z + (3 : Int32))), (.ref a), (.ref r15)]))
  refine Go.via (B := T29.setTop (mkF m 80 #[.val (.ref a), .val (.int v)] [(.int ((z + (3 : Int32)) + (1 : Int32))), (.ref a), (.int (z + (3 : Int32))), (.ref r15)])) (fun t_ k_ => ?_) ?_
  · show Steps p.tables e below (T29.setTop (mkF m 77 #[.val (.ref a), .val (.int v)] [(.int (z + (3 : Int32))), (.ref a), (.ref r15)])) t_
    refine XS.dupX1 X29.here hx rfl (hb hby d3_77) rfl rfl rfl ?_
    show Steps p.tables e below (T29.setTop (mkF m 78 #[.val (.ref a), .val (.int v)] [(.int (z + (3 : Int32))), (.ref a), (.int (z + (3 : Int32))), (.ref r15)])) t_
    refine XS.iconst X29.here hx rfl (hb hby d3_78) ?_
    show Steps p.tables e below (T29.setTop (mkF m 79 #[.val (.ref a), .val (.int v)] [(.int (1 : Int32)), (.int (z + (3 : Int32))), (.ref a), (.int (z + (3 : Int32))), (.ref r15)])) t_
    refine XS.iadd X29.here hx rfl (hb hby d3_79) rfl ?_
    show Steps p.tables e below (T29.setTop (mkF m 80 #[.val (.ref a), .val (.int v)] [(.int ((z + (3 : Int32)) + (1 : Int32))), (.ref a), (.int (z + (3 : Int32))), (.ref r15)])) t_
    exact k_
  rw [ha3]
  show Go p.tables e below _ (T29.setTop (mkF m 80 #[.val (.ref a), .val (.int v)] [(.int (z + (4 : Int32))), (.ref a), (.int (z + (3 : Int32))), (.ref r15)]))
  obtain ⟨T30, h30, X30, e30, W30, st30⟩ := putF X29 hx hZ hown (host := "") (Or.inl (hw _ (List.mem_of_getElem? (i := 21) rfl))) Via.refl e29 H27.2.2.1 H27.1 (Or.inl (hw _ (List.mem_of_getElem? (i := 22) rfl))) (hw _ (List.mem_of_getElem? (i := 1) rfl)) (ty := .int) (by decide) rfl rfl (g := (mkF m 80 #[.val (.ref a), .val (.int v)] [(.int (z + (4 : Int32))), (.ref a), (.int (z + (3 : Int32))), (.ref r15)])) rfl rfl (hb hby d3_80)
  have N30 := Fr.snoc X30 N27 ga
  have Z30 : n0 ≤ h30.size := Nat.le_trans Z27 (Keep.of_wr W30).1
  refine Go.via st30 ?_
  show Go p.tables e below _ (T30.setTop (mkF m 83 #[.val (.ref a), .val (.int v)] [(.int (z + (3 : Int32))), (.ref r15)]))
  have H30 := H27.put_size hw W30
  clear W30
  refine Go.via (B := T30.setTop (mkF m 85 #[.val (.ref a), .val (.int v)] [(.int (v.toInt8.toInt32)), (.int (z + (3 : Int32))), (.ref r15)])) (fun t_ k_ => ?_) ?_
  · show Steps p.tables e below (T30.setTop (mkF m 83 #[.val (.ref a), .val (.int v)] [(.int (z + (3 : Int32))), (.ref r15)])) t_
    refine XS.iloadN X30.here hx rfl (hb hby d3_83) rfl ?_
    show Steps p.tables e below (T30.setTop (mkF m 84 #[.val (.ref a), .val (.int v)] [(.int v), (.int (z + (3 : Int32))), (.ref r15)])) t_
    refine XS.i2b X30.here hx rfl (hb hby d3_84) rfl ?_
    show Steps p.tables e below (T30.setTop (mkF m 85 #[.val (.ref a), .val (.int v)] [(.int (v.toInt8.toInt32)), (.int (z + (3 : Int32))), (.ref r15)])) t_
    exact k_
  obtain ⟨T31, h31, L31, X31, e31, N31, W31, V31, st31⟩ := aputB X30 hx hZ e30 H30.2.2.2.1 N30 gr15 hm3.1 (by omega) (g := (mkF m 85 #[.val (.ref a), .val (.int v)] [(.int (v.toInt8.toInt32)), (.int (z + (3 : Int32))), (.ref r15)])) rfl rfl (hb hby d3_85)
  have H31 := H30.store W31 V31
  have Z31 := H31.ge ga
  clear W31 V31
  refine Go.via st31 ?_
  show Go p.tables e below _ (T31.setTop (mkF m 86 #[.val (.ref a), .val (.int v)] []))
  have ei1 : (z + (1 : Int32)).toNatClampNeg = z.toNatClampNeg + 1 := by omega
  have ei2 : (z + (2 : Int32)).toNatClampNeg = z.toNatClampNeg + 2 := by omega
  have ei3 : (z + (3 : Int32)).toNatClampNeg = z.toNatClampNeg + 3 := by omega
  rw [ei1, ei2, ei3] at H31
  simp only [own_i8] at H31
  exact Go.leave X31 hlk (v := none) (fun _ => rfl) (fun fs hr => X31.returnOut hx hrt (hb hby d3_86) hr) (by decide) (by decide) (⟨rfl, N31, r15, n15', _, gr15, BP.at e31 H31, hb15, hc15, fun i hi => ((own_four _ v _ i).trans (if_pos (by omega))).trans (hd15 i hi), own_fourK _ v _ 0 (by decide), own_fourK _ v _ 1 (by decide), own_fourK _ v _ 2 (by decide), own_fourK _ v _ 3 (by decide)⟩)
theorem d8_0 : decode prog_8_method_8_code 0 = .ok (.aload_n 0, 1) := by decide +kernel
theorem d8_1 : decode prog_8_method_8_code 1 = .ok (.getfield 12, 3) := by decide +kernel
theorem d8_4 : decode prog_8_method_8_code 4 = .ok (.iload_n 1, 1) := by decide +kernel
theorem d8_5 : decode prog_8_method_8_code 5 = .ok (.iload_n 2, 1) := by decide +kernel
theorem d8_6 : decode prog_8_method_8_code 6 = .ok (.bipush 24, 2) := by decide +kernel
theorem d8_8 : decode prog_8_method_8_code 8 = .ok (.iushr, 1) := by decide +kernel
theorem d8_9 : decode prog_8_method_8_code 9 = .ok (.i2b, 1) := by decide +kernel
theorem d8_10 : decode prog_8_method_8_code 10 = .ok (.bastore, 1) := by decide +kernel
theorem d8_11 : decode prog_8_method_8_code 11 = .ok (.aload_n 0, 1) := by decide +kernel
theorem d8_12 : decode prog_8_method_8_code 12 = .ok (.getfield 12, 3) := by decide +kernel
theorem d8_15 : decode prog_8_method_8_code 15 = .ok (.iload_n 1, 1) := by decide +kernel
theorem d8_16 : decode prog_8_method_8_code 16 = .ok (.iconst 1, 1) := by decide +kernel
theorem d8_17 : decode prog_8_method_8_code 17 = .ok (.iadd, 1) := by decide +kernel
theorem d8_18 : decode prog_8_method_8_code 18 = .ok (.iload_n 2, 1) := by decide +kernel
theorem d8_19 : decode prog_8_method_8_code 19 = .ok (.bipush 16, 2) := by decide +kernel
theorem d8_21 : decode prog_8_method_8_code 21 = .ok (.iushr, 1) := by decide +kernel
theorem d8_22 : decode prog_8_method_8_code 22 = .ok (.i2b, 1) := by decide +kernel
theorem d8_23 : decode prog_8_method_8_code 23 = .ok (.bastore, 1) := by decide +kernel
theorem d8_24 : decode prog_8_method_8_code 24 = .ok (.aload_n 0, 1) := by decide +kernel
theorem d8_25 : decode prog_8_method_8_code 25 = .ok (.getfield 12, 3) := by decide +kernel
theorem d8_28 : decode prog_8_method_8_code 28 = .ok (.iload_n 1, 1) := by decide +kernel
theorem d8_29 : decode prog_8_method_8_code 29 = .ok (.iconst 2, 1) := by decide +kernel
theorem d8_30 : decode prog_8_method_8_code 30 = .ok (.iadd, 1) := by decide +kernel
theorem d8_31 : decode prog_8_method_8_code 31 = .ok (.iload_n 2, 1) := by decide +kernel
theorem d8_32 : decode prog_8_method_8_code 32 = .ok (.bipush 8, 2) := by decide +kernel
theorem d8_34 : decode prog_8_method_8_code 34 = .ok (.iushr, 1) := by decide +kernel
theorem d8_35 : decode prog_8_method_8_code 35 = .ok (.i2b, 1) := by decide +kernel
theorem d8_36 : decode prog_8_method_8_code 36 = .ok (.bastore, 1) := by decide +kernel
theorem d8_37 : decode prog_8_method_8_code 37 = .ok (.aload_n 0, 1) := by decide +kernel
theorem d8_38 : decode prog_8_method_8_code 38 = .ok (.getfield 12, 3) := by decide +kernel
theorem d8_41 : decode prog_8_method_8_code 41 = .ok (.iload_n 1, 1) := by decide +kernel
theorem d8_42 : decode prog_8_method_8_code 42 = .ok (.iconst 3, 1) := by decide +kernel
theorem d8_43 : decode prog_8_method_8_code 43 = .ok (.iadd, 1) := by decide +kernel
theorem d8_44 : decode prog_8_method_8_code 44 = .ok (.iload_n 2, 1) := by decide +kernel
theorem d8_45 : decode prog_8_method_8_code 45 = .ok (.i2b, 1) := by decide +kernel
theorem d8_46 : decode prog_8_method_8_code 46 = .ok (.bastore, 1) := by decide +kernel
theorem d8_47 : decode prog_8_method_8_code 47 = .ok (.return_, 1) := by decide +kernel
theorem pn_8 : plainName "com/example/bytewright/bytewright/classfile/ByteWriter" = true := by first | (simp [plainName, overriddenIn]; done) | decide +kernel
theorem ef_8 (m : MethodId) (x0 : Addr) (x1 : Int32) (x2 : Int32) : entryFrame m #[(.ref x0), (.int x1), (.int x2)] 3 = mkF m 0 #[.val (.ref x0), .val (.int x1), .val (.int x2)] [] := by first | (simp [entryFrame, mkF, argsToLocals, Value.category]; done) | rfl
def Q8 (Z : State) (a : Addr) (q : Int32) (v : Int32) (r : Addr) (n : Nat) (f : Nat → Int32) (z : Int32) (h0 : Heap) (n0 : Nat) (v' : Option Value) (h : Heap) (L : List Loc) : Prop := v' = none ∧ Fr n0 L ∧ ∃ f' : Nat → Int32, BP Z h a r n f' z ∧ (∀ i : Nat, f' i = if i < q.toNatClampNeg then f i else if i < q.toNatClampNeg + 4 then own_byte v (i - q.toNatClampNeg) else f i)
set_option maxRecDepth 65536 in
set_option maxHeartbeats 40000000 in
theorem rm8 (l : Launch) (Z : State) (a0 : Array Value) (hw : ∀ d ∈ tables_1, d.before a0 Z = true) (ws : List Jvm.Cond) (a : Addr) (q : Int32) (v : Int32) (r : Addr) (n : Nat) (f : Nat → Int32) (z : Int32) (h0 : Heap) (n0 : Nat) (Z0 : n0 ≤ h0.size) (H : BP Z h0 a r n f z) (ga : n0 ≤ a) (gr : n0 ≤ r) (hq0 : 0 ≤ q.toInt) (hq4 : q.toInt ≤ 4) (hn : 8 ≤ n) :
    MetFree l (⟨"com/example/bytewright/bytewright/classfile/ByteWriter", "u4At", "(II)V"⟩ : MethodName) (head1 (Jvm.Cond.code (⟨"com/example/bytewright/bytewright/classfile/ByteWriter", "u4At", "(II)V"⟩ : MethodName) prog_8_method_8_code 3 none :: ws) ({ frames := 0, cells := 0, slots := 0, locals := 0 } : Room)) (fun a_ U_ => a_ = #[(.ref a), (.int q), (.int v)] ∧ Z.Warmed39 U_.vm ∧ U_.heap = h0) (fun _ _ _ _ _ => True) (fun _ U_ o_ V_ => ∃ v_ L_, o_ = .returned v_ ∧ Q8 Z a q v r n f z h0 n0 v_ V_.heap L_ ∧ FrameEnd U_ o_ V_ L_ ({ frames := 0, cells := 0, slots := 0, locals := 0 } : Room).cells ({ frames := 0, cells := 0, slots := 0, locals := 0 } : Room).slots) := by
  refine MetFree.of_bodySF (plainFor_of_name pn_8) hisR ?_
  intro p e s m args below meth c s₁ Bd hml0 hP hK
  obtain ⟨rfl, hZ, hh⟩ := hP
  have hx := Bd.exec
  have hby := Bd.bytes
  have hml : c.maxLocals = 3 := hml0
  have hown : s.vm.findClass "com/example/bytewright/bytewright/classfile/ByteWriter" = some m.cls := findClass_of_methodNamed Bd.named
  have hnm := (name_of_methodNamed Bd.named Bd.method).1
  have hlk : meth.locks = false := BodyLoose.notSynchronized Bd
  have hrt := Bd.returns
  have X0 : Stand p l e ({ frames := 0, cells := 0, slots := 0, locals := 0 } : Room) s m #[(.ref a), (.int q), (.int v)] below meth c s₁ [] 0 0 := Stand.of_body Bd
  have e0 : s₁.heap = h0 := by rw [← hh, Bd.state]; rfl
  have N0 := Fr.nil n0
  show Go p.tables e below (PQ s below (Q8 Z a q v r n f z h0 n0) 0 0) _
  refine Go.via (B := s₁.setTop (mkF m 0 #[.val (.ref a), .val (.int q), .val (.int v)] [])) (fun t_ k_ => castTop (ef_8 m a q v) k_) ?_
  have hz := own_nat hq0
  have hq1 : (q + (1 : Int32)).toInt = q.toInt + 1 := own_small (k := 1) hq0 (by omega) (by decide)
  have hm1 := own_nat (x := q + (1 : Int32)) (by omega)
  have hq2 : (q + (2 : Int32)).toInt = q.toInt + 2 := own_small (k := 2) hq0 (by omega) (by decide)
  have hm2 := own_nat (x := q + (2 : Int32)) (by omega)
  have hq3 : (q + (3 : Int32)).toInt = q.toInt + 3 := own_small (k := 3) hq0 (by omega) (by decide)
  have hm3 := own_nat (x := q + (3 : Int32)) (by omega)
  refine Go.via (B := s₁.setTop (mkF m 1 #[.val (.ref a), .val (.int q), .val (.int v)] [(.ref a)])) (fun t_ k_ => ?_) ?_
  · show Steps p.tables e below (s₁.setTop (mkF m 0 #[.val (.ref a), .val (.int q), .val (.int v)] [])) t_
    refine XS.aloadN X0.here hx rfl (hb hby d8_0) rfl rfl ?_
    show Steps p.tables e below (s₁.setTop (mkF m 1 #[.val (.ref a), .val (.int q), .val (.int v)] [(.ref a)])) t_
    exact k_
  obtain ⟨T32, X32, e32, st32⟩ := getF X0 hx hZ hown (host := "") (Or.inl (hw _ (List.mem_of_getElem? (i := 10) rfl))) Via.refl e0 H.2.1 (g := (mkF m 1 #[.val (.ref a), .val (.int q), .val (.int v)] [(.ref a)])) rfl rfl (hb hby d8_1)
  refine Go.via st32 ?_
  show Go p.tables e below _ (T32.setTop (mkF m 4 #[.val (.ref a), .val (.int q), .val (.int v)] [(.ref r)]))
  refine Go.via (B := T32.setTop (mkF m 10 #[.val (.ref a), .val (.int q), .val (.int v)] [(.int (((v.toUInt32 >>> ((24 : Int32) &&& 31).toUInt32).toInt32).toInt8.toInt32)), (.int q), (.ref r)])) (fun t_ k_ => ?_) ?_
  · show Steps p.tables e below (T32.setTop (mkF m 4 #[.val (.ref a), .val (.int q), .val (.int v)] [(.ref r)])) t_
    refine XS.iloadN X32.here hx rfl (hb hby d8_4) rfl ?_
    show Steps p.tables e below (T32.setTop (mkF m 5 #[.val (.ref a), .val (.int q), .val (.int v)] [(.int q), (.ref r)])) t_
    refine XS.iloadN X32.here hx rfl (hb hby d8_5) rfl ?_
    show Steps p.tables e below (T32.setTop (mkF m 6 #[.val (.ref a), .val (.int q), .val (.int v)] [(.int v), (.int q), (.ref r)])) t_
    refine XS.bipush X32.here hx rfl (hb hby d8_6) ?_
    show Steps p.tables e below (T32.setTop (mkF m 8 #[.val (.ref a), .val (.int q), .val (.int v)] [(.int (24 : Int32)), (.int v), (.int q), (.ref r)])) t_
    refine XS.iushr X32.here hx rfl (hb hby d8_8) rfl ?_
    show Steps p.tables e below (T32.setTop (mkF m 9 #[.val (.ref a), .val (.int q), .val (.int v)] [(.int ((v.toUInt32 >>> ((24 : Int32) &&& 31).toUInt32).toInt32)), (.int q), (.ref r)])) t_
    refine XS.i2b X32.here hx rfl (hb hby d8_9) rfl ?_
    show Steps p.tables e below (T32.setTop (mkF m 10 #[.val (.ref a), .val (.int q), .val (.int v)] [(.int (((v.toUInt32 >>> ((24 : Int32) &&& 31).toUInt32).toInt32).toInt8.toInt32)), (.int q), (.ref r)])) t_
    exact k_
  obtain ⟨T33, h33, L33, X33, e33, N33, W33, V33, st33⟩ := aputB X32 hx hZ e32 H.2.2.2.1 N0 gr hz.1 (by omega) (g := (mkF m 10 #[.val (.ref a), .val (.int q), .val (.int v)] [(.int (((v.toUInt32 >>> ((24 : Int32) &&& 31).toUInt32).toInt32).toInt8.toInt32)), (.int q), (.ref r)])) rfl rfl (hb hby d8_10)
  have H33 := H.store W33 V33
  have Z33 := H33.ge ga
  clear W33 V33
  refine Go.via st33 ?_
  show Go p.tables e below _ (T33.setTop (mkF m 11 #[.val (.ref a), .val (.int q), .val (.int v)] []))
  refine Go.via (B := T33.setTop (mkF m 12 #[.val (.ref a), .val (.int q), .val (.int v)] [(.ref a)])) (fun t_ k_ => ?_) ?_
  · show Steps p.tables e below (T33.setTop (mkF m 11 #[.val (.ref a), .val (.int q), .val (.int v)] [])) t_
    refine XS.aloadN X33.here hx rfl (hb hby d8_11) rfl rfl ?_
    show Steps p.tables e below (T33.setTop (mkF m 12 #[.val (.ref a), .val (.int q), .val (.int v)] [(.ref a)])) t_
    exact k_
  obtain ⟨T34, X34, e34, st34⟩ := getF X33 hx hZ hown (host := "") (Or.inl (hw _ (List.mem_of_getElem? (i := 10) rfl))) Via.refl e33 H33.2.1 (g := (mkF m 12 #[.val (.ref a), .val (.int q), .val (.int v)] [(.ref a)])) rfl rfl (hb hby d8_12)
  refine Go.via st34 ?_
  show Go p.tables e below _ (T34.setTop (mkF m 15 #[.val (.ref a), .val (.int q), .val (.int v)] [(.ref r)]))
  refine Go.via (B := T34.setTop (mkF m 23 #[.val (.ref a), .val (.int q), .val (.int v)] [(.int (((v.toUInt32 >>> ((16 : Int32) &&& 31).toUInt32).toInt32).toInt8.toInt32)), (.int (q + (1 : Int32))), (.ref r)])) (fun t_ k_ => ?_) ?_
  · show Steps p.tables e below (T34.setTop (mkF m 15 #[.val (.ref a), .val (.int q), .val (.int v)] [(.ref r)])) t_
    refine XS.iloadN X34.here hx rfl (hb hby d8_15) rfl ?_
    show Steps p.tables e below (T34.setTop (mkF m 16 #[.val (.ref a), .val (.int q), .val (.int v)] [(.int q), (.ref r)])) t_
    refine XS.iconst X34.here hx rfl (hb hby d8_16) ?_
    show Steps p.tables e below (T34.setTop (mkF m 17 #[.val (.ref a), .val (.int q), .val (.int v)] [(.int (1 : Int32)), (.int q), (.ref r)])) t_
    refine XS.iadd X34.here hx rfl (hb hby d8_17) rfl ?_
    show Steps p.tables e below (T34.setTop (mkF m 18 #[.val (.ref a), .val (.int q), .val (.int v)] [(.int (q + (1 : Int32))), (.ref r)])) t_
    refine XS.iloadN X34.here hx rfl (hb hby d8_18) rfl ?_
    show Steps p.tables e below (T34.setTop (mkF m 19 #[.val (.ref a), .val (.int q), .val (.int v)] [(.int v), (.int (q + (1 : Int32))), (.ref r)])) t_
    refine XS.bipush X34.here hx rfl (hb hby d8_19) ?_
    show Steps p.tables e below (T34.setTop (mkF m 21 #[.val (.ref a), .val (.int q), .val (.int v)] [(.int (16 : Int32)), (.int v), (.int (q + (1 : Int32))), (.ref r)])) t_
    refine XS.iushr X34.here hx rfl (hb hby d8_21) rfl ?_
    show Steps p.tables e below (T34.setTop (mkF m 22 #[.val (.ref a), .val (.int q), .val (.int v)] [(.int ((v.toUInt32 >>> ((16 : Int32) &&& 31).toUInt32).toInt32)), (.int (q + (1 : Int32))), (.ref r)])) t_
    refine XS.i2b X34.here hx rfl (hb hby d8_22) rfl ?_
    show Steps p.tables e below (T34.setTop (mkF m 23 #[.val (.ref a), .val (.int q), .val (.int v)] [(.int (((v.toUInt32 >>> ((16 : Int32) &&& 31).toUInt32).toInt32).toInt8.toInt32)), (.int (q + (1 : Int32))), (.ref r)])) t_
    exact k_
  obtain ⟨T35, h35, L35, X35, e35, N35, W35, V35, st35⟩ := aputB X34 hx hZ e34 H33.2.2.2.1 N33 gr hm1.1 (by omega) (g := (mkF m 23 #[.val (.ref a), .val (.int q), .val (.int v)] [(.int (((v.toUInt32 >>> ((16 : Int32) &&& 31).toUInt32).toInt32).toInt8.toInt32)), (.int (q + (1 : Int32))), (.ref r)])) rfl rfl (hb hby d8_23)
  have H35 := H33.store W35 V35
  have Z35 := H35.ge ga
  clear W35 V35
  refine Go.via st35 ?_
  show Go p.tables e below _ (T35.setTop (mkF m 24 #[.val (.ref a), .val (.int q), .val (.int v)] []))
  refine Go.via (B := T35.setTop (mkF m 25 #[.val (.ref a), .val (.int q), .val (.int v)] [(.ref a)])) (fun t_ k_ => ?_) ?_
  · show Steps p.tables e below (T35.setTop (mkF m 24 #[.val (.ref a), .val (.int q), .val (.int v)] [])) t_
    refine XS.aloadN X35.here hx rfl (hb hby d8_24) rfl rfl ?_
    show Steps p.tables e below (T35.setTop (mkF m 25 #[.val (.ref a), .val (.int q), .val (.int v)] [(.ref a)])) t_
    exact k_
  obtain ⟨T36, X36, e36, st36⟩ := getF X35 hx hZ hown (host := "") (Or.inl (hw _ (List.mem_of_getElem? (i := 10) rfl))) Via.refl e35 H35.2.1 (g := (mkF m 25 #[.val (.ref a), .val (.int q), .val (.int v)] [(.ref a)])) rfl rfl (hb hby d8_25)
  refine Go.via st36 ?_
  show Go p.tables e below _ (T36.setTop (mkF m 28 #[.val (.ref a), .val (.int q), .val (.int v)] [(.ref r)]))
  refine Go.via (B := T36.setTop (mkF m 36 #[.val (.ref a), .val (.int q), .val (.int v)] [(.int (((v.toUInt32 >>> ((8 : Int32) &&& 31).toUInt32).toInt32).toInt8.toInt32)), (.int (q + (2 : Int32))), (.ref r)])) (fun t_ k_ => ?_) ?_
  · show Steps p.tables e below (T36.setTop (mkF m 28 #[.val (.ref a), .val (.int q), .val (.int v)] [(.ref r)])) t_
    refine XS.iloadN X36.here hx rfl (hb hby d8_28) rfl ?_
    show Steps p.tables e below (T36.setTop (mkF m 29 #[.val (.ref a), .val (.int q), .val (.int v)] [(.int q), (.ref r)])) t_
    refine XS.iconst X36.here hx rfl (hb hby d8_29) ?_
    show Steps p.tables e below (T36.setTop (mkF m 30 #[.val (.ref a), .val (.int q), .val (.int v)] [(.int (2 : Int32)), (.int q), (.ref r)])) t_
    refine XS.iadd X36.here hx rfl (hb hby d8_30) rfl ?_
    show Steps p.tables e below (T36.setTop (mkF m 31 #[.val (.ref a), .val (.int q), .val (.int v)] [(.int (q + (2 : Int32))), (.ref r)])) t_
    refine XS.iloadN X36.here hx rfl (hb hby d8_31) rfl ?_
    show Steps p.tables e below (T36.setTop (mkF m 32 #[.val (.ref a), .val (.int q), .val (.int v)] [(.int v), (.int (q + (2 : Int32))), (.ref r)])) t_
    refine XS.bipush X36.here hx rfl (hb hby d8_32) ?_
    show Steps p.tables e below (T36.setTop (mkF m 34 #[.val (.ref a), .val (.int q), .val (.int v)] [(.int (8 : Int32)), (.int v), (.int (q + (2 : Int32))), (.ref r)])) t_
    refine XS.iushr X36.here hx rfl (hb hby d8_34) rfl ?_
    show Steps p.tables e below (T36.setTop (mkF m 35 #[.val (.ref a), .val (.int q), .val (.int v)] [(.int ((v.toUInt32 >>> ((8 : Int32) &&& 31).toUInt32).toInt32)), (.int (q + (2 : Int32))), (.ref r)])) t_
    refine XS.i2b X36.here hx rfl (hb hby d8_35) rfl ?_
    show Steps p.tables e below (T36.setTop (mkF m 36 #[.val (.ref a), .val (.int q), .val (.int v)] [(.int (((v.toUInt32 >>> ((8 : Int32) &&& 31).toUInt32).toInt32).toInt8.toInt32)), (.int (q + (2 : Int32))), (.ref r)])) t_
    exact k_
  obtain ⟨T37, h37, L37, X37, e37, N37, W37, V37, st37⟩ := aputB X36 hx hZ e36 H35.2.2.2.1 N35 gr hm2.1 (by omega) (g := (mkF m 36 #[.val (.ref a), .val (.int q), .val (.int v)] [(.int (((v.toUInt32 >>> ((8 : Int32) &&& 31).toUInt32).toInt32).toInt8.toInt32)), (.int (q + (2 : Int32))), (.ref r)])) rfl rfl (hb hby d8_36)
  have H37 := H35.store W37 V37
  have Z37 := H37.ge ga
  clear W37 V37
  refine Go.via st37 ?_
  show Go p.tables e below _ (T37.setTop (mkF m 37 #[.val (.ref a), .val (.int q), .val (.int v)] []))
  refine Go.via (B := T37.setTop (mkF m 38 #[.val (.ref a), .val (.int q), .val (.int v)] [(.ref a)])) (fun t_ k_ => ?_) ?_
  · show Steps p.tables e below (T37.setTop (mkF m 37 #[.val (.ref a), .val (.int q), .val (.int v)] [])) t_
    refine XS.aloadN X37.here hx rfl (hb hby d8_37) rfl rfl ?_
    show Steps p.tables e below (T37.setTop (mkF m 38 #[.val (.ref a), .val (.int q), .val (.int v)] [(.ref a)])) t_
    exact k_
  obtain ⟨T38, X38, e38, st38⟩ := getF X37 hx hZ hown (host := "") (Or.inl (hw _ (List.mem_of_getElem? (i := 10) rfl))) Via.refl e37 H37.2.1 (g := (mkF m 38 #[.val (.ref a), .val (.int q), .val (.int v)] [(.ref a)])) rfl rfl (hb hby d8_38)
  refine Go.via st38 ?_
  show Go p.tables e below _ (T38.setTop (mkF m 41 #[.val (.ref a), .val (.int q), .val (.int v)] [(.ref r)]))
  refine Go.via (B := T38.setTop (mkF m 46 #[.val (.ref a), .val (.int q), .val (.int v)] [(.int (v.toInt8.toInt32)), (.int (q + (3 : Int32))), (.ref r)])) (fun t_ k_ => ?_) ?_
  · show Steps p.tables e below (T38.setTop (mkF m 41 #[.val (.ref a), .val (.int q), .val (.int v)] [(.ref r)])) t_
    refine XS.iloadN X38.here hx rfl (hb hby d8_41) rfl ?_
    show Steps p.tables e below (T38.setTop (mkF m 42 #[.val (.ref a), .val (.int q), .val (.int v)] [(.int q), (.ref r)])) t_
    refine XS.iconst X38.here hx rfl (hb hby d8_42) ?_
    show Steps p.tables e below (T38.setTop (mkF m 43 #[.val (.ref a), .val (.int q), .val (.int v)] [(.int (3 : Int32)), (.int q), (.ref r)])) t_
    refine XS.iadd X38.here hx rfl (hb hby d8_43) rfl ?_
    show Steps p.tables e below (T38.setTop (mkF m 44 #[.val (.ref a), .val (.int q), .val (.int v)] [(.int (q + (3 : Int32))), (.ref r)])) t_
    refine XS.iloadN X38.here hx rfl (hb hby d8_44) rfl ?_
    show Steps p.tables e below (T38.setTop (mkF m 45 #[.val (.ref a), .val (.int q), .val (.int v)] [(.int v), (.int (q + (3 : Int32))), (.ref r)])) t_
    refine XS.i2b X38.here hx rfl (hb hby d8_45) rfl ?_
    show Steps p.tables e below (T38.setTop (mkF m 46 #[.val (.ref a), .val (.int q), .val (.int v)] [(.int (v.toInt8.toInt32)), (.int (q + (3 : Int32))), (.ref r)])) t_
    exact k_
  obtain ⟨T39, h39, L39, X39, e39, N39, W39, V39, st39⟩ := aputB X38 hx hZ e38 H37.2.2.2.1 N37 gr hm3.1 (by omega) (g := (mkF m 46 #[.val (.ref a), .val (.int q), .val (.int v)] [(.int (v.toInt8.toInt32)), (.int (q + (3 : Int32))), (.ref r)])) rfl rfl (hb hby d8_46)
  have H39 := H37.store W39 V39
  have Z39 := H39.ge ga
  clear W39 V39
  refine Go.via st39 ?_
  show Go p.tables e below _ (T39.setTop (mkF m 47 #[.val (.ref a), .val (.int q), .val (.int v)] []))
  have ei1 : (q + (1 : Int32)).toNatClampNeg = q.toNatClampNeg + 1 := by omega
  have ei2 : (q + (2 : Int32)).toNatClampNeg = q.toNatClampNeg + 2 := by omega
  have ei3 : (q + (3 : Int32)).toNatClampNeg = q.toNatClampNeg + 3 := by omega
  rw [ei1, ei2, ei3] at H39
  simp only [own_i8] at H39
  exact Go.leave X39 hlk (v := none) (fun _ => rfl) (fun fs hr => X39.returnOut hx hrt (hb hby d8_47) hr) (by decide) (by decide) (⟨rfl, N39, _, BP.at e39 H39, fun i => own_four f v q.toNatClampNeg i⟩)
theorem d9_0 : decode prog_8_method_15_code 0 = .ok (.aload_n 0, 1) := by decide +kernel
theorem d9_1 : decode prog_8_method_15_code 1 = .ok (.getfield 19, 3) := by decide +kernel
theorem d9_4 : decode prog_8_method_15_code 4 = .ok (.ireturn, 1) := by decide +kernel
theorem pn_9 : plainName "com/example/bytewright/bytewright/classfile/ByteWriter" = true := by first | (simp [plainName, overriddenIn]; done) | decide +kernel
theorem ef_9 (m : MethodId) (x0 : Addr) : entryFrame m #[(.ref x0)] 1 = mkF m 0 #[.val (.ref x0)] [] := by first | (simp [entryFrame, mkF, argsToLocals, Value.category]; done) | rfl
def Q9 (Z : State) (a : Addr) (r : Addr) (n : Nat) (f : Nat → Int32) (z : Int32) (h0 : Heap) (n0 : Nat) (v : Option Value) (h : Heap) (L : List Loc) : Prop := v = some (.int z) ∧ Fr n0 L ∧ h = h0
set_option maxRecDepth 65536 in
set_option maxHeartbeats 40000000 in
theorem rm9 (l : Launch) (Z : State) (a0 : Array Value) (hw : ∀ d ∈ tables_1, d.before a0 Z = true) (ws : List Jvm.Cond) (a : Addr) (r : Addr) (n : Nat) (f : Nat → Int32) (z : Int32) (h0 : Heap) (n0 : Nat) (Z0 : n0 ≤ h0.size) (H : BP Z h0 a r n f z) :
    MetFree l (⟨"com/example/bytewright/bytewright/classfile/ByteWriter", "size", "()I"⟩ : MethodName) (head1 (Jvm.Cond.code (⟨"com/example/bytewright/bytewright/classfile/ByteWriter", "size", "()I"⟩ : MethodName) prog_8_method_15_code 1 (some .int) :: ws) ({ frames := 0, cells := 0, slots := 0, locals := 0 } : Room)) (fun a_ U_ => a_ = #[(.ref a)] ∧ Z.Warmed39 U_.vm ∧ U_.heap = h0) (fun _ _ _ _ _ => True) (fun _ U_ o_ V_ => ∃ v_ L_, o_ = .returned v_ ∧ Q9 Z a r n f z h0 n0 v_ V_.heap L_ ∧ FrameEnd U_ o_ V_ L_ ({ frames := 0, cells := 0, slots := 0, locals := 0 } : Room).cells ({ frames := 0, cells := 0, slots := 0, locals := 0 } : Room).slots) := by
  refine MetFree.of_bodySF (plainFor_of_name pn_9) hisR ?_
  intro p e s m args below meth c s₁ Bd hml0 hP hK
  obtain ⟨rfl, hZ, hh⟩ := hP
  have hx := Bd.exec
  have hby := Bd.bytes
  have hml : c.maxLocals = 1 := hml0
  have hown : s.vm.findClass "com/example/bytewright/bytewright/classfile/ByteWriter" = some m.cls := findClass_of_methodNamed Bd.named
  have hnm := (name_of_methodNamed Bd.named Bd.method).1
  have hlk : meth.locks = false := BodyLoose.notSynchronized Bd
  have hrt := Bd.returns
  have X0 : Stand p l e ({ frames := 0, cells := 0, slots := 0, locals := 0 } : Room) s m #[(.ref a)] below meth c s₁ [] 0 0 := Stand.of_body Bd
  have e0 : s₁.heap = h0 := by rw [← hh, Bd.state]; rfl
  have N0 := Fr.nil n0
  show Go p.tables e below (PQ s below (Q9 Z a r n f z h0 n0) 0 0) _
  refine Go.via (B := s₁.setTop (mkF m 0 #[.val (.ref a)] [])) (fun t_ k_ => castTop (ef_9 m a) k_) ?_
  refine Go.via (B := s₁.setTop (mkF m 1 #[.val (.ref a)] [(.ref a)])) (fun t_ k_ => ?_) ?_
  · show Steps p.tables e below (s₁.setTop (mkF m 0 #[.val (.ref a)] [])) t_
    refine XS.aloadN X0.here hx rfl (hb hby d9_0) rfl rfl ?_
    show Steps p.tables e below (s₁.setTop (mkF m 1 #[.val (.ref a)] [(.ref a)])) t_
    exact k_
  obtain ⟨T40, X40, e40, st40⟩ := getF X0 hx hZ hown (host := "") (Or.inl (hw _ (List.mem_of_getElem? (i := 21) rfl))) Via.refl e0 H.2.2.1 (g := (mkF m 1 #[.val (.ref a)] [(.ref a)])) rfl rfl (hb hby d9_1)
  refine Go.via st40 ?_
  show Go p.tables e below _ (T40.setTop (mkF m 4 #[.val (.ref a)] [(.int z)]))
  exact Go.leave X40 hlk (v := (some (.int z))) (fun h => by rw [hrt] at h; cases h) (fun fs hr => retI X40 hx hrt (hb hby d9_4) hr) (by decide) (by decide) (⟨rfl, N0, e40⟩)
theorem d10_0 : decode prog_8_method_16_code 0 = .ok (.aload_n 0, 1) := by decide +kernel
theorem d10_1 : decode prog_8_method_16_code 1 = .ok (.getfield 19, 3) := by decide +kernel
theorem d10_4 : decode prog_8_method_16_code 4 = .ok (.aload_n 0, 1) := by decide +kernel
theorem d10_5 : decode prog_8_method_16_code 5 = .ok (.getfield 12, 3) := by decide +kernel
theorem d10_8 : decode prog_8_method_16_code 8 = .ok (.arraylength, 1) := by decide +kernel
theorem d10_9 : decode prog_8_method_16_code 9 = .ok (.if_icmp .ne 10, 3) := by decide +kernel
theorem d10_12 : decode prog_8_method_16_code 12 = .ok (.aload_n 0, 1) := by decide +kernel
theorem d10_13 : decode prog_8_method_16_code 13 = .ok (.getfield 12, 3) := by decide +kernel
theorem d10_16 : decode prog_8_method_16_code 16 = .ok (.goto 14, 3) := by decide +kernel
theorem d10_19 : decode prog_8_method_16_code 19 = .ok (.aload_n 0, 1) := by decide +kernel
theorem d10_20 : decode prog_8_method_16_code 20 = .ok (.getfield 12, 3) := by decide +kernel
theorem d10_23 : decode prog_8_method_16_code 23 = .ok (.aload_n 0, 1) := by decide +kernel
theorem d10_24 : decode prog_8_method_16_code 24 = .ok (.getfield 19, 3) := by decide +kernel
theorem d10_27 : decode prog_8_method_16_code 27 = .ok (.invokestatic 46, 3) := by decide +kernel
theorem d10_30 : decode prog_8_method_16_code 30 = .ok (.areturn, 1) := by decide +kernel
theorem pn_10 : plainName "com/example/bytewright/bytewright/classfile/ByteWriter" = true := by first | (simp [plainName, overriddenIn]; done) | decide +kernel
theorem ef_10 (m : MethodId) (x0 : Addr) : entryFrame m #[(.ref x0)] 1 = mkF m 0 #[.val (.ref x0)] [] := by first | (simp [entryFrame, mkF, argsToLocals, Value.category]; done) | rfl
def Q10 (Z : State) (a : Addr) (r : Addr) (n : Nat) (f : Nat → Int32) (z : Int32) (h0 : Heap) (n0 : Nat) (v : Option Value) (h : Heap) (L : List Loc) : Prop := ∃ (r' : Addr) (g : Nat → Int32), v = some (.ref r') ∧ Fr n0 L ∧ n0 ≤ h.size ∧ Ary Z h r' .byte 8 g ∧ ∀ i : Nat, i < 8 → g i = f i
set_option maxRecDepth 65536 in
set_option maxHeartbeats 40000000 in
theorem rm10 (l : Launch) (Z : State) (a0 : Array Value) (hw : ∀ d ∈ tables_1, d.before a0 Z = true) (ws : List Jvm.Cond) (a : Addr) (r : Addr) (n : Nat) (f : Nat → Int32) (z : Int32) (h0 : Heap) (n0 : Nat) (Z0 : n0 ≤ h0.size) (H : BP Z h0 a r n f z) (gr : n0 ≤ r) (hz8 : z = 8) (hn8 : 8 ≤ n) (hn : n ≤ 15) :
    MetFree l (⟨"com/example/bytewright/bytewright/classfile/ByteWriter", "toByteArray", "()[B"⟩ : MethodName) (head1 (Jvm.Cond.code (⟨"com/example/bytewright/bytewright/classfile/ByteWriter", "toByteArray", "()[B"⟩ : MethodName) prog_8_method_16_code 1 (some (.array .byte)) :: ws) ({ frames := 2, cells := 1, slots := 15, locals := 80 } : Room)) (fun a_ U_ => a_ = #[(.ref a)] ∧ Z.Warmed39 U_.vm ∧ U_.heap = h0) (fun _ _ _ _ _ => True) (fun _ U_ o_ V_ => ∃ v_ L_, o_ = .returned v_ ∧ Q10 Z a r n f z h0 n0 v_ V_.heap L_ ∧ FrameEnd U_ o_ V_ L_ ({ frames := 2, cells := 1, slots := 15, locals := 80 } : Room).cells ({ frames := 2, cells := 1, slots := 15, locals := 80 } : Room).slots) := by
  refine MetFree.of_bodySF (plainFor_of_name pn_10) hisR ?_
  intro p e s m args below meth c s₁ Bd hml0 hP hK
  obtain ⟨rfl, hZ, hh⟩ := hP
  have hx := Bd.exec
  have hby := Bd.bytes
  have hml : c.maxLocals = 1 := hml0
  have hown : s.vm.findClass "com/example/bytewright/bytewright/classfile/ByteWriter" = some m.cls := findClass_of_methodNamed Bd.named
  have hnm := (name_of_methodNamed Bd.named Bd.method).1
  have hlk : meth.locks = false := BodyLoose.notSynchronized Bd
  have hrt := Bd.returns
  have X0 : Stand p l e ({ frames := 2, cells := 1, slots := 15, locals := 80 } : Room) s m #[(.ref a)] below meth c s₁ [] 0 0 := Stand.of_body Bd
  have e0 : s₁.heap = h0 := by rw [← hh, Bd.state]; rfl
  have N0 := Fr.nil n0
  show Go p.tables e below (PQ s below (Q10 Z a r n f z h0 n0) 1 15) _
  refine Go.via (B := s₁.setTop (mkF m 0 #[.val (.ref a)] [])) (fun t_ k_ => castTop (ef_10 m a) k_) ?_
  subst hz8
  have hln := len_toInt (n := n) (by omega)
  refine Go.via (B := s₁.setTop (mkF m 1 #[.val (.ref a)] [(.ref a)])) (fun t_ k_ => ?_) ?_
  · show Steps p.tables e below (s₁.setTop (mkF m 0 #[.val (.ref a)] [])) t_
    refine XS.aloadN X0.here hx rfl (hb hby d10_0) rfl rfl ?_
    show Steps p.tables e below (s₁.setTop (mkF m 1 #[.val (.ref a)] [(.ref a)])) t_
    exact k_
  obtain ⟨T41, X41, e41, st41⟩ := getF X0 hx hZ hown (host := "") (Or.inl (hw _ (List.mem_of_getElem? (i := 21) rfl))) Via.refl e0 H.2.2.1 (g := (mkF m 1 #[.val (.ref a)] [(.ref a)])) rfl rfl (hb hby d10_1)
  refine Go.via st41 ?_
  show Go p.tables e below _ (T41.setTop (mkF m 4 #[.val (.ref a)] [(.int (8 : Int32))]))
  refine Go.via (B := T41.setTop (mkF m 5 #[.val (.ref a)] [(.ref a), (.int (8 : Int32))])) (fun t_ k_ => ?_) ?_
  · show Steps p.tables e below (T41.setTop (mkF m 4 #[.val (.ref a)] [(.int (8 : Int32))])) t_
    refine XS.aloadN X41.here hx rfl (hb hby d10_4) rfl rfl ?_
    show Steps p.tables e below (T41.setTop (mkF m 5 #[.val (.ref a)] [(.ref a), (.int (8 : Int32))])) t_
    exact k_
  obtain ⟨T42, X42, e42, st42⟩ := getF X41 hx hZ hown (host := "") (Or.inl (hw _ (List.mem_of_getElem? (i := 10) rfl))) Via.refl e41 H.2.1 (g := (mkF m 5 #[.val (.ref a)] [(.ref a), (.int (8 : Int32))])) rfl rfl (hb hby d10_5)
  refine Go.via st42 ?_
  show Go p.tables e below _ (T42.setTop (mkF m 8 #[.val (.ref a)] [(.ref r), (.int (8 : Int32))]))
  refine Go.via (B := T42.setTop (mkF m 9 #[.val (.ref a)] [(.int (n.toInt32)), (.int (8 : Int32))])) (fun t_ k_ => alen X42 hx hZ e42 H.2.2.2.1 (g := (mkF m 8 #[.val (.ref a)] [(.ref r), (.int (8 : Int32))])) rfl rfl (hb hby d10_8) t_ k_) ?_
  by_cases heq : (8 : Int32) = (n.toInt32)
  · refine Go.via (B := T42.setTop (mkF m 12 #[.val (.ref a)] [])) (fun t_ k_ => XS.icmpNo X42.here hx rfl (hb hby d10_9) rfl ((teq heq).2) k_) ?_
    have h8 : n = 8 := by rw [← Int32.toInt_inj, hln] at heq; have : (8 : Int32).toInt = 8 := rfl; omega
    subst h8
    refine Go.via (B := T42.setTop (mkF m 13 #[.val (.ref a)] [(.ref a)])) (fun t_ k_ => ?_) ?_
    · show Steps p.tables e below (T42.setTop (mkF m 12 #[.val (.ref a)] [])) t_
      refine XS.aloadN X42.here hx rfl (hb hby d10_12) rfl rfl ?_
      show Steps p.tables e below (T42.setTop (mkF m 13 #[.val (.ref a)] [(.ref a)])) t_
      exact k_
    obtain ⟨T43, X43, e43, st43⟩ := getF X42 hx hZ hown (host := "") (Or.inl (hw _ (List.mem_of_getElem? (i := 10) rfl))) Via.refl e42 H.2.1 (g := (mkF m 13 #[.val (.ref a)] [(.ref a)])) rfl rfl (hb hby d10_13)
    refine Go.via st43 ?_
    show Go p.tables e below _ (T43.setTop (mkF m 16 #[.val (.ref a)] [(.ref r)]))
    refine Go.via (B := T43.setTop (mkF m 30 #[.val (.ref a)] [(.ref r)])) (fun t_ k_ => ?_) ?_
    · show Steps p.tables e below (T43.setTop (mkF m 16 #[.val (.ref a)] [(.ref r)])) t_
      refine XS.goto X43.here hx rfl (pc0 := 16) (pc' := 30) rfl (hb hby d10_16) (by decide) (by decide) ?_
      show Steps p.tables e below (T43.setTop (mkF m 30 #[.val (.ref a)] [(.ref r)])) t_
      exact k_
    exact Go.leave X43 hlk (v := (some (.ref r))) (fun h => by rw [hrt] at h; cases h) (fun fs hr => retA X43 hx hrt rfl rfl (hb hby d10_30) hr) (by decide) (by decide) (⟨r, f, rfl, N0, by rw [e43]; exact Z0, by rw [e43]; exact H.2.2.2.1, fun _ _ => rfl⟩)
  · refine Go.via (B := T42.setTop (mkF m 19 #[.val (.ref a)] [])) (fun t_ k_ => XS.icmpYes X42.here hx rfl (pc0 := 9) (pc' := 19) rfl (hb hby d10_9) rfl ((feq heq).2) (by decide) (by decide) k_) ?_
    refine Go.via (B := T42.setTop (mkF m 20 #[.val (.ref a)] [(.ref a)])) (fun t_ k_ => ?_) ?_
    · show Steps p.tables e below (T42.setTop (mkF m 19 #[.val (.ref a)] [])) t_
      refine XS.aloadN X42.here hx rfl (hb hby d10_19) rfl rfl ?_
      show Steps p.tables e below (T42.setTop (mkF m 20 #[.val (.ref a)] [(.ref a)])) t_
      exact k_
    obtain ⟨T44, X44, e44, st44⟩ := getF X42 hx hZ hown (host := "") (Or.inl (hw _ (List.mem_of_getElem? (i := 10) rfl))) Via.refl e42 H.2.1 (g := (mkF m 20 #[.val (.ref a)] [(.ref a)])) rfl rfl (hb hby d10_20)
    refine Go.via st44 ?_
    show Go p.tables e below _ (T44.setTop (mkF m 23 #[.val (.ref a)] [(.ref r)]))
    refine Go.via (B := T44.setTop (mkF m 24 #[.val (.ref a)] [(.ref a), (.ref r)])) (fun t_ k_ => ?_) ?_
    · show Steps p.tables e below (T44.setTop (mkF m 23 #[.val (.ref a)] [(.ref r)])) t_
      refine XS.aloadN X44.here hx rfl (hb hby d10_23) rfl rfl ?_
      show Steps p.tables e below (T44.setTop (mkF m 24 #[.val (.ref a)] [(.ref a), (.ref r)])) t_
      exact k_
    obtain ⟨T45, X45, e45, st45⟩ := getF X44 hx hZ hown (host := "") (Or.inl (hw _ (List.mem_of_getElem? (i := 21) rfl))) Via.refl e44 H.2.2.1 (g := (mkF m 24 #[.val (.ref a)] [(.ref a), (.ref r)])) rfl rfl (hb hby d10_24)
    refine Go.via st45 ?_
    show Go p.tables e below _ (T45.setTop (mkF m 27 #[.val (.ref a)] [(.int (8 : Int32)), (.ref r)]))
    obtain ⟨_, _, ⟨T46, L46, k46, n46⟩, -, X46, ⟨Lc46, hQ46, l46, y46, z46⟩, st46⟩ := Jvm.LawKit.callS X45 hx (y := (⟨"java/util/Arrays", "copyOf", "([BI)[B"⟩ : MethodName)) hown (mvT hZ (hw _ (List.mem_of_getElem? (i := 27) rfl))) (mvT hZ (hw _ (List.mem_of_getElem? (i := 28) rfl))) (mvT hZ (hw _ (List.mem_of_getElem? (i := 29) rfl))) (mvT hZ (hw _ (List.mem_of_getElem? (i := 30) rfl))) (by decide) (backOf (W := 0) (rm6 l Z a0 hw [] r (8 : Int32) n f h0 n0 Z0 H.2.2.2.1 heq (by decide) (by decide)) hZ (hw _ (List.mem_of_getElem? (i := 30) rfl)) (hw _ (List.mem_of_getElem? (i := 29) rfl)) (by decide) (by decide)) (g := (mkF m 27 #[.val (.ref a)] [(.int (8 : Int32)), (.ref r)])) rfl (by rw [hml]; rfl) (argsL := [(.ref r), (.int (8 : Int32))]) (rest := []) (lenOf pd1 rfl) rfl (by show 2 * 0 + _ ≤ _; exact Nat.le_of_eq rfl) (hb hby d10_27) (fun _ _ => ⟨rfl, e45, (by decide : 0 + 1 ≤ _), (by decide : 0 + 15 ≤ _)⟩)
    dsimp only [Pt.U, Pt.locs, Pt.cells, Pt.slots] at X46 l46 y46 z46 st46 hQ46
    subst l46 y46 z46
    obtain ⟨r46, rfl, N46q, gr46, gs46, K46, V46⟩ := hQ46
    have N46 := Fr.app N0 N46q
    refine Go.via st46 ?_
    show Go p.tables e below _ (T46.setTop (mkF m 30 #[.val (.ref a)] [(.ref r46)]))
    exact Go.leave X46 hlk (v := (some (.ref r46))) (fun h => by rw [hrt] at h; cases h) (fun fs hr => retA X46 hx hrt rfl rfl (hb hby d10_30) hr) (by decide) (by decide) (⟨r46, _, rfl, N46, Nat.le_trans Z0 K46.1, V46, fun i hi => if_pos (by omega)⟩)
theorem d11_0 : decode method_2_code 0 = .ok (.lconst 0, 1) := by decide +kernel
theorem d11_1 : decode method_2_code 1 = .ok (.lstore_n 1, 1) := by decide +kernel
theorem d11_2 : decode method_2_code 2 = .ok (.lload_n 1, 1) := by decide +kernel
theorem d11_3 : decode method_2_code 3 = .ok (.aload_n 0, 1) := by decide +kernel
theorem d11_4 : decode method_2_code 4 = .ok (.iconst 0, 1) := by decide +kernel
theorem d11_5 : decode method_2_code 5 = .ok (.baload, 1) := by decide +kernel
theorem d11_6 : decode method_2_code 6 = .ok (.sipush 255, 3) := by decide +kernel
theorem d11_9 : decode method_2_code 9 = .ok (.iand, 1) := by decide +kernel
theorem d11_10 : decode method_2_code 10 = .ok (.i2l, 1) := by decide +kernel
theorem d11_11 : decode method_2_code 11 = .ok (.bipush 56, 2) := by decide +kernel
theorem d11_13 : decode method_2_code 13 = .ok (.lshl, 1) := by decide +kernel
theorem d11_14 : decode method_2_code 14 = .ok (.lor, 1) := by decide +kernel
theorem d11_15 : decode method_2_code 15 = .ok (.lstore_n 1, 1) := by decide +kernel
theorem d11_16 : decode method_2_code 16 = .ok (.lload_n 1, 1) := by decide +kernel
theorem d11_17 : decode method_2_code 17 = .ok (.aload_n 0, 1) := by decide +kernel
theorem d11_18 : decode method_2_code 18 = .ok (.iconst 1, 1) := by decide +kernel
theorem d11_19 : decode method_2_code 19 = .ok (.baload, 1) := by decide +kernel
theorem d11_20 : decode method_2_code 20 = .ok (.sipush 255, 3) := by decide +kernel
theorem d11_23 : decode method_2_code 23 = .ok (.iand, 1) := by decide +kernel
theorem d11_24 : decode method_2_code 24 = .ok (.i2l, 1) := by decide +kernel
theorem d11_25 : decode method_2_code 25 = .ok (.bipush 48, 2) := by decide +kernel
theorem d11_27 : decode method_2_code 27 = .ok (.lshl, 1) := by decide +kernel
theorem d11_28 : decode method_2_code 28 = .ok (.lor, 1) := by decide +kernel
theorem d11_29 : decode method_2_code 29 = .ok (.lstore_n 1, 1) := by decide +kernel
theorem d11_30 : decode method_2_code 30 = .ok (.lload_n 1, 1) := by decide +kernel
theorem d11_31 : decode method_2_code 31 = .ok (.aload_n 0, 1) := by decide +kernel
theorem d11_32 : decode method_2_code 32 = .ok (.iconst 2, 1) := by decide +kernel
theorem d11_33 : decode method_2_code 33 = .ok (.baload, 1) := by decide +kernel
theorem d11_34 : decode method_2_code 34 = .ok (.sipush 255, 3) := by decide +kernel
theorem d11_37 : decode method_2_code 37 = .ok (.iand, 1) := by decide +kernel
theorem d11_38 : decode method_2_code 38 = .ok (.i2l, 1) := by decide +kernel
theorem d11_39 : decode method_2_code 39 = .ok (.bipush 40, 2) := by decide +kernel
theorem d11_41 : decode method_2_code 41 = .ok (.lshl, 1) := by decide +kernel
theorem d11_42 : decode method_2_code 42 = .ok (.lor, 1) := by decide +kernel
theorem d11_43 : decode method_2_code 43 = .ok (.lstore_n 1, 1) := by decide +kernel
theorem d11_44 : decode method_2_code 44 = .ok (.lload_n 1, 1) := by decide +kernel
theorem d11_45 : decode method_2_code 45 = .ok (.aload_n 0, 1) := by decide +kernel
theorem d11_46 : decode method_2_code 46 = .ok (.iconst 3, 1) := by decide +kernel
theorem d11_47 : decode method_2_code 47 = .ok (.baload, 1) := by decide +kernel
theorem d11_48 : decode method_2_code 48 = .ok (.sipush 255, 3) := by decide +kernel
theorem d11_51 : decode method_2_code 51 = .ok (.iand, 1) := by decide +kernel
theorem d11_52 : decode method_2_code 52 = .ok (.i2l, 1) := by decide +kernel
theorem d11_53 : decode method_2_code 53 = .ok (.bipush 32, 2) := by decide +kernel
theorem d11_55 : decode method_2_code 55 = .ok (.lshl, 1) := by decide +kernel
theorem d11_56 : decode method_2_code 56 = .ok (.lor, 1) := by decide +kernel
theorem d11_57 : decode method_2_code 57 = .ok (.lstore_n 1, 1) := by decide +kernel
theorem d11_58 : decode method_2_code 58 = .ok (.lload_n 1, 1) := by decide +kernel
theorem d11_59 : decode method_2_code 59 = .ok (.aload_n 0, 1) := by decide +kernel
theorem d11_60 : decode method_2_code 60 = .ok (.iconst 4, 1) := by decide +kernel
theorem d11_61 : decode method_2_code 61 = .ok (.baload, 1) := by decide +kernel
theorem d11_62 : decode method_2_code 62 = .ok (.sipush 255, 3) := by decide +kernel
theorem d11_65 : decode method_2_code 65 = .ok (.iand, 1) := by decide +kernel
theorem d11_66 : decode method_2_code 66 = .ok (.i2l, 1) := by decide +kernel
theorem d11_67 : decode method_2_code 67 = .ok (.bipush 24, 2) := by decide +kernel
theorem d11_69 : decode method_2_code 69 = .ok (.lshl, 1) := by decide +kernel
theorem d11_70 : decode method_2_code 70 = .ok (.lor, 1) := by decide +kernel
theorem d11_71 : decode method_2_code 71 = .ok (.lstore_n 1, 1) := by decide +kernel
theorem d11_72 : decode method_2_code 72 = .ok (.lload_n 1, 1) := by decide +kernel
theorem d11_73 : decode method_2_code 73 = .ok (.aload_n 0, 1) := by decide +kernel
theorem d11_74 : decode method_2_code 74 = .ok (.iconst 5, 1) := by decide +kernel
theorem d11_75 : decode method_2_code 75 = .ok (.baload, 1) := by decide +kernel
theorem d11_76 : decode method_2_code 76 = .ok (.sipush 255, 3) := by decide +kernel
theorem d11_79 : decode method_2_code 79 = .ok (.iand, 1) := by decide +kernel
theorem d11_80 : decode method_2_code 80 = .ok (.i2l, 1) := by decide +kernel
theorem d11_81 : decode method_2_code 81 = .ok (.bipush 16, 2) := by decide +kernel
theorem d11_83 : decode method_2_code 83 = .ok (.lshl, 1) := by decide +kernel
theorem d11_84 : decode method_2_code 84 = .ok (.lor, 1) := by decide +kernel
theorem d11_85 : decode method_2_code 85 = .ok (.lstore_n 1, 1) := by decide +kernel
theorem d11_86 : decode method_2_code 86 = .ok (.lload_n 1, 1) := by decide +kernel
theorem d11_87 : decode method_2_code 87 = .ok (.aload_n 0, 1) := by decide +kernel
theorem d11_88 : decode method_2_code 88 = .ok (.bipush 6, 2) := by decide +kernel
theorem d11_90 : decode method_2_code 90 = .ok (.baload, 1) := by decide +kernel
theorem d11_91 : decode method_2_code 91 = .ok (.sipush 255, 3) := by decide +kernel
theorem d11_94 : decode method_2_code 94 = .ok (.iand, 1) := by decide +kernel
theorem d11_95 : decode method_2_code 95 = .ok (.i2l, 1) := by decide +kernel
theorem d11_96 : decode method_2_code 96 = .ok (.bipush 8, 2) := by decide +kernel
theorem d11_98 : decode method_2_code 98 = .ok (.lshl, 1) := by decide +kernel
theorem d11_99 : decode method_2_code 99 = .ok (.lor, 1) := by decide +kernel
theorem d11_100 : decode method_2_code 100 = .ok (.lstore_n 1, 1) := by decide +kernel
theorem d11_101 : decode method_2_code 101 = .ok (.lload_n 1, 1) := by decide +kernel
theorem d11_102 : decode method_2_code 102 = .ok (.aload_n 0, 1) := by decide +kernel
theorem d11_103 : decode method_2_code 103 = .ok (.bipush 7, 2) := by decide +kernel
theorem d11_105 : decode method_2_code 105 = .ok (.baload, 1) := by decide +kernel
theorem d11_106 : decode method_2_code 106 = .ok (.sipush 255, 3) := by decide +kernel
theorem d11_109 : decode method_2_code 109 = .ok (.iand, 1) := by decide +kernel
theorem d11_110 : decode method_2_code 110 = .ok (.i2l, 1) := by decide +kernel
theorem d11_111 : decode method_2_code 111 = .ok (.lor, 1) := by decide +kernel
theorem d11_112 : decode method_2_code 112 = .ok (.lstore_n 1, 1) := by decide +kernel
theorem d11_113 : decode method_2_code 113 = .ok (.lload_n 1, 1) := by decide +kernel
theorem d11_114 : decode method_2_code 114 = .ok (.lreturn, 1) := by decide +kernel
theorem pn_11 : plainName "com/example/bytewright/bytewright/classfile/ByteWriterU4AtPinLaw" = true := by first | (simp [plainName, overriddenIn]; done) | decide +kernel
theorem ef_11 (m : MethodId) (x0 : Addr) : entryFrame m #[(.ref x0)] 3 = mkF m 0 #[.val (.ref x0), .unset, .unset] [] := by first | (simp [entryFrame, mkF, argsToLocals, Value.category]; done) | rfl
def Q11 (Z : State) (a : Addr) (f : Nat → Int32) (h0 : Heap) (n0 : Nat) (v : Option Value) (h : Heap) (L : List Loc) : Prop := v = some (.long (DEC f)) ∧ Fr n0 L ∧ h = h0
set_option maxRecDepth 65536 in
set_option maxHeartbeats 40000000 in
theorem rm11 (l : Launch) (Z : State) (a0 : Array Value) (hw : ∀ d ∈ tables_1, d.before a0 Z = true) (ws : List Jvm.Cond) (a : Addr) (f : Nat → Int32) (h0 : Heap) (n0 : Nat) (Z0 : n0 ≤ h0.size) (A : Ary Z h0 a .byte 8 f) :
    MetFree l (⟨"com/example/bytewright/bytewright/classfile/ByteWriterU4AtPinLaw", "decode", "([B)J"⟩ : MethodName) (head1 (Jvm.Cond.code (⟨"com/example/bytewright/bytewright/classfile/ByteWriterU4AtPinLaw", "decode", "([B)J"⟩ : MethodName) method_2_code 3 (some .long) :: ws) ({ frames := 0, cells := 0, slots := 0, locals := 0 } : Room)) (fun a_ U_ => a_ = #[(.ref a)] ∧ Z.Warmed39 U_.vm ∧ U_.heap = h0) (fun _ _ _ _ _ => True) (fun _ U_ o_ V_ => ∃ v_ L_, o_ = .returned v_ ∧ Q11 Z a f h0 n0 v_ V_.heap L_ ∧ FrameEnd U_ o_ V_ L_ ({ frames := 0, cells := 0, slots := 0, locals := 0 } : Room).cells ({ frames := 0, cells := 0, slots := 0, locals := 0 } : Room).slots) := by
  refine MetFree.of_bodySF (plainFor_of_name pn_11) hisR ?_
  intro p e s m args below meth c s₁ Bd hml0 hP hK
  obtain ⟨rfl, hZ, hh⟩ := hP
  have hx := Bd.exec
  have hby := Bd.bytes
  have hml : c.maxLocals = 3 := hml0
  have hown : s.vm.findClass "com/example/bytewright/bytewright/classfile/ByteWriterU4AtPinLaw" = some m.cls := findClass_of_methodNamed Bd.named
  have hnm := (name_of_methodNamed Bd.named Bd.method).1
  have hlk : meth.locks = false := BodyLoose.notSynchronized Bd
  have hrt := Bd.returns
  have X0 : Stand p l e ({ frames := 0, cells := 0, slots := 0, locals := 0 } : Room) s m #[(.ref a)] below meth c s₁ [] 0 0 := Stand.of_body Bd
  have e0 : s₁.heap = h0 := by rw [← hh, Bd.state]; rfl
  have N0 := Fr.nil n0
  show Go p.tables e below (PQ s below (Q11 Z a f h0 n0) 0 0) _
  refine Go.via (B := s₁.setTop (mkF m 0 #[.val (.ref a), .unset, .unset] [])) (fun t_ k_ => castTop (ef_11 m a) k_) ?_
  refine Go.via (B := s₁.setTop (mkF m 2 #[.val (.ref a), .val (.long (0 : Int64)), .second] [])) (fun t_ k_ => ?_) ?_
  · show Steps p.tables e below (s₁.setTop (mkF m 0 #[.val (.ref a), .unset, .unset] [])) t_
    refine XS.lconst X0.here hx rfl (hb hby d11_0) ?_
    show Steps p.tables e below (s₁.setTop (mkF m 1 #[.val (.ref a), .unset, .unset] [(.long (0 : Int64))])) t_
    refine XS.lstoreN X0.here hx rfl (hb hby d11_1) rfl (l' := #[.val (.ref a), .val (.long (0 : Int64)), .second]) rfl ?_
    show Steps p.tables e below (s₁.setTop (mkF m 2 #[.val (.ref a), .val (.long (0 : Int64)), .second] [])) t_
    exact k_
  refine Go.via (B := s₁.setTop (mkF m 5 #[.val (.ref a), .val (.long (0 : Int64)), .second] [(.int (0 : Int32)), (.ref a), (.long (0 : Int64))])) (fun t_ k_ => ?_) ?_
  · show Steps p.tables e below (s₁.setTop (mkF m 2 #[.val (.ref a), .val (.long (0 : Int64)), .second] [])) t_
    refine XS.lloadN X0.here hx rfl (hb hby d11_2) rfl ?_
    show Steps p.tables e below (s₁.setTop (mkF m 3 #[.val (.ref a), .val (.long (0 : Int64)), .second] [(.long (0 : Int64))])) t_
    refine XS.aloadN X0.here hx rfl (hb hby d11_3) rfl rfl ?_
    show Steps p.tables e below (s₁.setTop (mkF m 4 #[.val (.ref a), .val (.long (0 : Int64)), .second] [(.ref a), (.long (0 : Int64))])) t_
    refine XS.iconst X0.here hx rfl (hb hby d11_4) ?_
    show Steps p.tables e below (s₁.setTop (mkF m 5 #[.val (.ref a), .val (.long (0 : Int64)), .second] [(.int (0 : Int32)), (.ref a), (.long (0 : Int64))])) t_
    exact k_
  refine Go.via (B := s₁.setTop (mkF m 6 #[.val (.ref a), .val (.long (0 : Int64)), .second] [(.int (f 0)), (.long (0 : Int64))])) (fun t_ k_ => agetB X0 hx hZ e0 A (by decide) (by decide) (g := (mkF m 5 #[.val (.ref a), .val (.long (0 : Int64)), .second] [(.int (0 : Int32)), (.ref a), (.long (0 : Int64))])) rfl rfl (hb hby d11_5) t_ k_) ?_
  refine Go.via (B := s₁.setTop (mkF m 16 #[.val (.ref a), .val (.long ((0 : Int64) ||| ((((f 0) &&& (255 : Int32)).toInt64) <<< ((56 : Int32) &&& 0x3f).toInt64))), .second] [])) (fun t_ k_ => ?_) ?_
  · show Steps p.tables e below (s₁.setTop (mkF m 6 #[.val (.ref a), .val (.long (0 : Int64)), .second] [(.int (f 0)), (.long (0 : Int64))])) t_
    refine XS.sipush X0.here hx rfl (hb hby d11_6) ?_
    show Steps p.tables e below (s₁.setTop (mkF m 9 #[.val (.ref a), .val (.long (0 : Int64)), .second] [(.int (255 : Int32)), (.int (f 0)), (.long (0 : Int64))])) t_
    refine XS.iand X0.here hx rfl (hb hby d11_9) rfl ?_
    show Steps p.tables e below (s₁.setTop (mkF m 10 #[.val (.ref a), .val (.long (0 : Int64)), .second] [(.int ((f 0) &&& (255 : Int32))), (.long (0 : Int64))])) t_
    refine XS.i2l X0.here hx rfl (hb hby d11_10) rfl ?_
    show Steps p.tables e below (s₁.setTop (mkF m 11 #[.val (.ref a), .val (.long (0 : Int64)), .second] [(.long (((f 0) &&& (255 : Int32)).toInt64)), (.long (0 : Int64))])) t_
    refine XS.bipush X0.here hx rfl (hb hby d11_11) ?_
    show Steps p.tables e below (s₁.setTop (mkF m 13 #[.val (.ref a), .val (.long (0 : Int64)), .second] [(.int (56 : Int32)), (.long (((f 0) &&& (255 : Int32)).toInt64)), (.long (0 : Int64))])) t_
    refine XS.lshl X0.here hx rfl (hb hby d11_13) rfl ?_
    show Steps p.tables e below (s₁.setTop (mkF m 14 #[.val (.ref a), .val (.long (0 : Int64)), .second] [(.long ((((f 0) &&& (255 : Int32)).toInt64) <<< ((56 : Int32) &&& 0x3f).toInt64)), (.long (0 : Int64))])) t_
    refine XS.lor X0.here hx rfl (hb hby d11_14) rfl ?_
    show Steps p.tables e below (s₁.setTop (mkF m 15 #[.val (.ref a), .val (.long (0 : Int64)), .second] [(.long ((0 : Int64) ||| ((((f 0) &&& (255 : Int32)).toInt64) <<< ((56 : Int32) &&& 0x3f).toInt64)))])) t_
    refine XS.lstoreN X0.here hx rfl (hb hby d11_15) rfl (l' := #[.val (.ref a), .val (.long ((0 : Int64) ||| ((((f 0) &&& (255 : Int32)).toInt64) <<< ((56 : Int32) &&& 0x3f).toInt64))), .second]) rfl ?_
    show Steps p.tables e below (s₁.setTop (mkF m 16 #[.val (.ref a), .val (.long ((0 : Int64) ||| ((((f 0) &&& (255 : Int32)).toInt64) <<< ((56 : Int32) &&& 0x3f).toInt64))), .second] [])) t_
    exact k_
  show Go p.tables e below _ (s₁.setTop (mkF m 16 #[.val (.ref a), .val (.long (DC0 f)), .second] []))
  refine Go.via (B := s₁.setTop (mkF m 19 #[.val (.ref a), .val (.long (DC0 f)), .second] [(.int (1 : Int32)), (.ref a), (.long (DC0 f))])) (fun t_ k_ => ?_) ?_
  · show Steps p.tables e below (s₁.setTop (mkF m 16 #[.val (.ref a), .val (.long (DC0 f)), .second] [])) t_
    refine XS.lloadN X0.here hx rfl (hb hby d11_16) rfl ?_
    show Steps p.tables e below (s₁.setTop (mkF m 17 #[.val (.ref a), .val (.long (DC0 f)), .second] [(.long (DC0 f))])) t_
    refine XS.aloadN X0.here hx rfl (hb hby d11_17) rfl rfl ?_
    show Steps p.tables e below (s₁.setTop (mkF m 18 #[.val (.ref a), .val (.long (DC0 f)), .second] [(.ref a), (.long (DC0 f))])) t_
    refine XS.iconst X0.here hx rfl (hb hby d11_18) ?_
    show Steps p.tables e below (s₁.setTop (mkF m 19 #[.val (.ref a), .val (.long (DC0 f)), .second] [(.int (1 : Int32)), (.ref a), (.long (DC0 f))])) t_
    exact k_
  refine Go.via (B := s₁.setTop (mkF m 20 #[.val (.ref a), .val (.long (DC0 f)), .second] [(.int (f 1)), (.long (DC0 f))])) (fun t_ k_ => agetB X0 hx hZ e0 A (by decide) (by decide) (g := (mkF m 19 #[.val (.ref a), .val (.long (DC0 f)), .second] [(.int (1 : Int32)), (.ref a), (.long (DC0 f))])) rfl rfl (hb hby d11_19) t_ k_) ?_
  refine Go.via (B := s₁.setTop (mkF m 30 #[.val (.ref a), .val (.long ((DC0 f) ||| ((((f 1) &&& (255 : Int32)).toInt64) <<< ((48 : Int32) &&& 0x3f).toInt64))), .second] [])) (fun t_ k_ => ?_) ?_
  · show Steps p.tables e below (s₁.setTop (mkF m 20 #[.val (.ref a), .val (.long (DC0 f)), .second] [(.int (f 1)), (.long (DC0 f))])) t_
    refine XS.sipush X0.here hx rfl (hb hby d11_20) ?_
    show Steps p.tables e below (s₁.setTop (mkF m 23 #[.val (.ref a), .val (.long (DC0 f)), .second] [(.int (255 : Int32)), (.int (f 1)), (.long (DC0 f))])) t_
    refine XS.iand X0.here hx rfl (hb hby d11_23) rfl ?_
    show Steps p.tables e below (s₁.setTop (mkF m 24 #[.val (.ref a), .val (.long (DC0 f)), .second] [(.int ((f 1) &&& (255 : Int32))), (.long (DC0 f))])) t_
    refine XS.i2l X0.here hx rfl (hb hby d11_24) rfl ?_
    show Steps p.tables e below (s₁.setTop (mkF m 25 #[.val (.ref a), .val (.long (DC0 f)), .second] [(.long (((f 1) &&& (255 : Int32)).toInt64)), (.long (DC0 f))])) t_
    refine XS.bipush X0.here hx rfl (hb hby d11_25) ?_
    show Steps p.tables e below (s₁.setTop (mkF m 27 #[.val (.ref a), .val (.long (DC0 f)), .second] [(.int (48 : Int32)), (.long (((f 1) &&& (255 : Int32)).toInt64)), (.long (DC0 f))])) t_
    refine XS.lshl X0.here hx rfl (hb hby d11_27) rfl ?_
    show Steps p.tables e below (s₁.setTop (mkF m 28 #[.val (.ref a), .val (.long (DC0 f)), .second] [(.long ((((f 1) &&& (255 : Int32)).toInt64) <<< ((48 : Int32) &&& 0x3f).toInt64)), (.long (DC0 f))])) t_
    refine XS.lor X0.here hx rfl (hb hby d11_28) rfl ?_
    show Steps p.tables e below (s₁.setTop (mkF m 29 #[.val (.ref a), .val (.long (DC0 f)), .second] [(.long ((DC0 f) ||| ((((f 1) &&& (255 : Int32)).toInt64) <<< ((48 : Int32) &&& 0x3f).toInt64)))])) t_
    refine XS.lstoreN X0.here hx rfl (hb hby d11_29) rfl (l' := #[.val (.ref a), .val (.long ((DC0 f) ||| ((((f 1) &&& (255 : Int32)).toInt64) <<< ((48 : Int32) &&& 0x3f).toInt64))), .second]) rfl ?_
    show Steps p.tables e below (s₁.setTop (mkF m 30 #[.val (.ref a), .val (.long ((DC0 f) ||| ((((f 1) &&& (255 : Int32)).toInt64) <<< ((48 : Int32) &&& 0x3f).toInt64))), .second] [])) t_
    exact k_
  show Go p.tables e below _ (s₁.setTop (mkF m 30 #[.val (.ref a), .val (.long (DC1 f)), .second] []))
  refine Go.via (B := s₁.setTop (mkF m 33 #[.val (.ref a), .val (.long (DC1 f)), .second] [(.int (2 : Int32)), (.ref a), (.long (DC1 f))])) (fun t_ k_ => ?_) ?_
  · show Steps p.tables e below (s₁.setTop (mkF m 30 #[.val (.ref a), .val (.long (DC1 f)), .second] [])) t_
    refine XS.lloadN X0.here hx rfl (hb hby d11_30) rfl ?_
    show Steps p.tables e below (s₁.setTop (mkF m 31 #[.val (.ref a), .val (.long (DC1 f)), .second] [(.long (DC1 f))])) t_
    refine XS.aloadN X0.here hx rfl (hb hby d11_31) rfl rfl ?_
    show Steps p.tables e below (s₁.setTop (mkF m 32 #[.val (.ref a), .val (.long (DC1 f)), .second] [(.ref a), (.long (DC1 f))])) t_
    refine XS.iconst X0.here hx rfl (hb hby d11_32) ?_
    show Steps p.tables e below (s₁.setTop (mkF m 33 #[.val (.ref a), .val (.long (DC1 f)), .second] [(.int (2 : Int32)), (.ref a), (.long (DC1 f))])) t_
    exact k_
  refine Go.via (B := s₁.setTop (mkF m 34 #[.val (.ref a), .val (.long (DC1 f)), .second] [(.int (f 2)), (.long (DC1 f))])) (fun t_ k_ => agetB X0 hx hZ e0 A (by decide) (by decide) (g := (mkF m 33 #[.val (.ref a), .val (.long (DC1 f)), .second] [(.int (2 : Int32)), (.ref a), (.long (DC1 f))])) rfl rfl (hb hby d11_33) t_ k_) ?_
  refine Go.via (B := s₁.setTop (mkF m 44 #[.val (.ref a), .val (.long ((DC1 f) ||| ((((f 2) &&& (255 : Int32)).toInt64) <<< ((40 : Int32) &&& 0x3f).toInt64))), .second] [])) (fun t_ k_ => ?_) ?_
  · show Steps p.tables e below (s₁.setTop (mkF m 34 #[.val (.ref a), .val (.long (DC1 f)), .second] [(.int (f 2)), (.long (DC1 f))])) t_
    refine XS.sipush X0.here hx rfl (hb hby d11_34) ?_
    show Steps p.tables e below (s₁.setTop (mkF m 37 #[.val (.ref a), .val (.long (DC1 f)), .second] [(.int (255 : Int32)), (.int (f 2)), (.long (DC1 f))])) t_
    refine XS.iand X0.here hx rfl (hb hby d11_37) rfl ?_
    show Steps p.tables e below (s₁.setTop (mkF m 38 #[.val (.ref a), .val (.long (DC1 f)), .second] [(.int ((f 2) &&& (255 : Int32))), (.long (DC1 f))])) t_
    refine XS.i2l X0.here hx rfl (hb hby d11_38) rfl ?_
    show Steps p.tables e below (s₁.setTop (mkF m 39 #[.val (.ref a), .val (.long (DC1 f)), .second] [(.long (((f 2) &&& (255 : Int32)).toInt64)), (.long (DC1 f))])) t_
    refine XS.bipush X0.here hx rfl (hb hby d11_39) ?_
    show Steps p.tables e below (s₁.setTop (mkF m 41 #[.val (.ref a), .val (.long (DC1 f)), .second] [(.int (40 : Int32)), (.long (((f 2) &&& (255 : Int32)).toInt64)), (.long (DC1 f))])) t_
    refine XS.lshl X0.here hx rfl (hb hby d11_41) rfl ?_
    show Steps p.tables e below (s₁.setTop (mkF m 42 #[.val (.ref a), .val (.long (DC1 f)), .second] [(.long ((((f 2) &&& (255 : Int32)).toInt64) <<< ((40 : Int32) &&& 0x3f).toInt64)), (.long (DC1 f))])) t_
    refine XS.lor X0.here hx rfl (hb hby d11_42) rfl ?_
    show Steps p.tables e below (s₁.setTop (mkF m 43 #[.val (.ref a), .val (.long (DC1 f)), .second] [(.long ((DC1 f) ||| ((((f 2) &&& (255 : Int32)).toInt64) <<< ((40 : Int32) &&& 0x3f).toInt64)))])) t_
    refine XS.lstoreN X0.here hx rfl (hb hby d11_43) rfl (l' := #[.val (.ref a), .val (.long ((DC1 f) ||| ((((f 2) &&& (255 : Int32)).toInt64) <<< ((40 : Int32) &&& 0x3f).toInt64))), .second]) rfl ?_
    show Steps p.tables e below (s₁.setTop (mkF m 44 #[.val (.ref a), .val (.long ((DC1 f) ||| ((((f 2) &&& (255 : Int32)).toInt64) <<< ((40 : Int32) &&& 0x3f).toInt64))), .second] [])) t_
    exact k_
  show Go p.tables e below _ (s₁.setTop (mkF m 44 #[.val (.ref a), .val (.long (DC2 f)), .second] []))
  refine Go.via (B := s₁.setTop (mkF m 47 #[.val (.ref a), .val (.long (DC2 f)), .second] [(.int (3 : Int32)), (.ref a), (.long (DC2 f))])) (fun t_ k_ => ?_) ?_
  · show Steps p.tables e below (s₁.setTop (mkF m 44 #[.val (.ref a), .val (.long (DC2 f)), .second] [])) t_
    refine XS.lloadN X0.here hx rfl (hb hby d11_44) rfl ?_
    show Steps p.tables e below (s₁.setTop (mkF m 45 #[.val (.ref a), .val (.long (DC2 f)), .second] [(.long (DC2 f))])) t_
    refine XS.aloadN X0.here hx rfl (hb hby d11_45) rfl rfl ?_
    show Steps p.tables e below (s₁.setTop (mkF m 46 #[.val (.ref a), .val (.long (DC2 f)), .second] [(.ref a), (.long (DC2 f))])) t_
    refine XS.iconst X0.here hx rfl (hb hby d11_46) ?_
    show Steps p.tables e below (s₁.setTop (mkF m 47 #[.val (.ref a), .val (.long (DC2 f)), .second] [(.int (3 : Int32)), (.ref a), (.long (DC2 f))])) t_
    exact k_
  refine Go.via (B := s₁.setTop (mkF m 48 #[.val (.ref a), .val (.long (DC2 f)), .second] [(.int (f 3)), (.long (DC2 f))])) (fun t_ k_ => agetB X0 hx hZ e0 A (by decide) (by decide) (g := (mkF m 47 #[.val (.ref a), .val (.long (DC2 f)), .second] [(.int (3 : Int32)), (.ref a), (.long (DC2 f))])) rfl rfl (hb hby d11_47) t_ k_) ?_
  refine Go.via (B := s₁.setTop (mkF m 58 #[.val (.ref a), .val (.long ((DC2 f) ||| ((((f 3) &&& (255 : Int32)).toInt64) <<< ((32 : Int32) &&& 0x3f).toInt64))), .second] [])) (fun t_ k_ => ?_) ?_
  · show Steps p.tables e below (s₁.setTop (mkF m 48 #[.val (.ref a), .val (.long (DC2 f)), .second] [(.int (f 3)), (.long (DC2 f))])) t_
    refine XS.sipush X0.here hx rfl (hb hby d11_48) ?_
    show Steps p.tables e below (s₁.setTop (mkF m 51 #[.val (.ref a), .val (.long (DC2 f)), .second] [(.int (255 : Int32)), (.int (f 3)), (.long (DC2 f))])) t_
    refine XS.iand X0.here hx rfl (hb hby d11_51) rfl ?_
    show Steps p.tables e below (s₁.setTop (mkF m 52 #[.val (.ref a), .val (.long (DC2 f)), .second] [(.int ((f 3) &&& (255 : Int32))), (.long (DC2 f))])) t_
    refine XS.i2l X0.here hx rfl (hb hby d11_52) rfl ?_
    show Steps p.tables e below (s₁.setTop (mkF m 53 #[.val (.ref a), .val (.long (DC2 f)), .second] [(.long (((f 3) &&& (255 : Int32)).toInt64)), (.long (DC2 f))])) t_
    refine XS.bipush X0.here hx rfl (hb hby d11_53) ?_
    show Steps p.tables e below (s₁.setTop (mkF m 55 #[.val (.ref a), .val (.long (DC2 f)), .second] [(.int (32 : Int32)), (.long (((f 3) &&& (255 : Int32)).toInt64)), (.long (DC2 f))])) t_
    refine XS.lshl X0.here hx rfl (hb hby d11_55) rfl ?_
    show Steps p.tables e below (s₁.setTop (mkF m 56 #[.val (.ref a), .val (.long (DC2 f)), .second] [(.long ((((f 3) &&& (255 : Int32)).toInt64) <<< ((32 : Int32) &&& 0x3f).toInt64)), (.long (DC2 f))])) t_
    refine XS.lor X0.here hx rfl (hb hby d11_56) rfl ?_
    show Steps p.tables e below (s₁.setTop (mkF m 57 #[.val (.ref a), .val (.long (DC2 f)), .second] [(.long ((DC2 f) ||| ((((f 3) &&& (255 : Int32)).toInt64) <<< ((32 : Int32) &&& 0x3f).toInt64)))])) t_
    refine XS.lstoreN X0.here hx rfl (hb hby d11_57) rfl (l' := #[.val (.ref a), .val (.long ((DC2 f) ||| ((((f 3) &&& (255 : Int32)).toInt64) <<< ((32 : Int32) &&& 0x3f).toInt64))), .second]) rfl ?_
    show Steps p.tables e below (s₁.setTop (mkF m 58 #[.val (.ref a), .val (.long ((DC2 f) ||| ((((f 3) &&& (255 : Int32)).toInt64) <<< ((32 : Int32) &&& 0x3f).toInt64))), .second] [])) t_
    exact k_
  show Go p.tables e below _ (s₁.setTop (mkF m 58 #[.val (.ref a), .val (.long (DC3 f)), .second] []))
  refine Go.via (B := s₁.setTop (mkF m 61 #[.val (.ref a), .val (.long (DC3 f)), .second] [(.int (4 : Int32)), (.ref a), (.long (DC3 f))])) (fun t_ k_ => ?_) ?_
  · show Steps p.tables e below (s₁.setTop (mkF m 58 #[.val (.ref a), .val (.long (DC3 f)), .second] [])) t_
    refine XS.lloadN X0.here hx rfl (hb hby d11_58) rfl ?_
    show Steps p.tables e below (s₁.setTop (mkF m 59 #[.val (.ref a), .val (.long (DC3 f)), .second] [(.long (DC3 f))])) t_
    refine XS.aloadN X0.here hx rfl (hb hby d11_59) rfl rfl ?_
    show Steps p.tables e below (s₁.setTop (mkF m 60 #[.val (.ref a), .val (.long (DC3 f)), .second] [(.ref a), (.long (DC3 f))])) t_
    refine XS.iconst X0.here hx rfl (hb hby d11_60) ?_
    show Steps p.tables e below (s₁.setTop (mkF m 61 #[.val (.ref a), .val (.long (DC3 f)), .second] [(.int (4 : Int32)), (.ref a), (.long (DC3 f))])) t_
    exact k_
  refine Go.via (B := s₁.setTop (mkF m 62 #[.val (.ref a), .val (.long (DC3 f)), .second] [(.int (f 4)), (.long (DC3 f))])) (fun t_ k_ => agetB X0 hx hZ e0 A (by decide) (by decide) (g := (mkF m 61 #[.val (.ref a), .val (.long (DC3 f)), .second] [(.int (4 : Int32)), (.ref a), (.long (DC3 f))])) rfl rfl (hb hby d11_61) t_ k_) ?_
  refine Go.via (B := s₁.setTop (mkF m 72 #[.val (.ref a), .val (.long ((DC3 f) ||| ((((f 4) &&& (255 : Int32)).toInt64) <<< ((24 : Int32) &&& 0x3f).toInt64))), .second] [])) (fun t_ k_ => ?_) ?_
  · show Steps p.tables e below (s₁.setTop (mkF m 62 #[.val (.ref a), .val (.long (DC3 f)), .second] [(.int (f 4)), (.long (DC3 f))])) t_
    refine XS.sipush X0.here hx rfl (hb hby d11_62) ?_
    show Steps p.tables e below (s₁.setTop (mkF m 65 #[.val (.ref a), .val (.long (DC3 f)), .second] [(.int (255 : Int32)), (.int (f 4)), (.long (DC3 f))])) t_
    refine XS.iand X0.here hx rfl (hb hby d11_65) rfl ?_
    show Steps p.tables e below (s₁.setTop (mkF m 66 #[.val (.ref a), .val (.long (DC3 f)), .second] [(.int ((f 4) &&& (255 : Int32))), (.long (DC3 f))])) t_
    refine XS.i2l X0.here hx rfl (hb hby d11_66) rfl ?_
    show Steps p.tables e below (s₁.setTop (mkF m 67 #[.val (.ref a), .val (.long (DC3 f)), .second] [(.long (((f 4) &&& (255 : Int32)).toInt64)), (.long (DC3 f))])) t_
    refine XS.bipush X0.here hx rfl (hb hby d11_67) ?_
    show Steps p.tables e below (s₁.setTop (mkF m 69 #[.val (.ref a), .val (.long (DC3 f)), .second] [(.int (24 : Int32)), (.long (((f 4) &&& (255 : Int32)).toInt64)), (.long (DC3 f))])) t_
    refine XS.lshl X0.here hx rfl (hb hby d11_69) rfl ?_
    show Steps p.tables e below (s₁.setTop (mkF m 70 #[.val (.ref a), .val (.long (DC3 f)), .second] [(.long ((((f 4) &&& (255 : Int32)).toInt64) <<< ((24 : Int32) &&& 0x3f).toInt64)), (.long (DC3 f))])) t_
    refine XS.lor X0.here hx rfl (hb hby d11_70) rfl ?_
    show Steps p.tables e below (s₁.setTop (mkF m 71 #[.val (.ref a), .val (.long (DC3 f)), .second] [(.long ((DC3 f) ||| ((((f 4) &&& (255 : Int32)).toInt64) <<< ((24 : Int32) &&& 0x3f).toInt64)))])) t_
    refine XS.lstoreN X0.here hx rfl (hb hby d11_71) rfl (l' := #[.val (.ref a), .val (.long ((DC3 f) ||| ((((f 4) &&& (255 : Int32)).toInt64) <<< ((24 : Int32) &&& 0x3f).toInt64))), .second]) rfl ?_
    show Steps p.tables e below (s₁.setTop (mkF m 72 #[.val (.ref a), .val (.long ((DC3 f) ||| ((((f 4) &&& (255 : Int32)).toInt64) <<< ((24 : Int32) &&& 0x3f).toInt64))), .second] [])) t_
    exact k_
  show Go p.tables e below _ (s₁.setTop (mkF m 72 #[.val (.ref a), .val (.long (DC4 f)), .second] []))
  refine Go.via (B := s₁.setTop (mkF m 75 #[.val (.ref a), .val (.long (DC4 f)), .second] [(.int (5 : Int32)), (.ref a), (.long (DC4 f))])) (fun t_ k_ => ?_) ?_
  · show Steps p.tables e below (s₁.setTop (mkF m 72 #[.val (.ref a), .val (.long (DC4 f)), .second] [])) t_
    refine XS.lloadN X0.here hx rfl (hb hby d11_72) rfl ?_
    show Steps p.tables e below (s₁.setTop (mkF m 73 #[.val (.ref a), .val (.long (DC4 f)), .second] [(.long (DC4 f))])) t_
    refine XS.aloadN X0.here hx rfl (hb hby d11_73) rfl rfl ?_
    show Steps p.tables e below (s₁.setTop (mkF m 74 #[.val (.ref a), .val (.long (DC4 f)), .second] [(.ref a), (.long (DC4 f))])) t_
    refine XS.iconst X0.here hx rfl (hb hby d11_74) ?_
    show Steps p.tables e below (s₁.setTop (mkF m 75 #[.val (.ref a), .val (.long (DC4 f)), .second] [(.int (5 : Int32)), (.ref a), (.long (DC4 f))])) t_
    exact k_
  refine Go.via (B := s₁.setTop (mkF m 76 #[.val (.ref a), .val (.long (DC4 f)), .second] [(.int (f 5)), (.long (DC4 f))])) (fun t_ k_ => agetB X0 hx hZ e0 A (by decide) (by decide) (g := (mkF m 75 #[.val (.ref a), .val (.long (DC4 f)), .second] [(.int (5 : Int32)), (.ref a), (.long (DC4 f))])) rfl rfl (hb hby d11_75) t_ k_) ?_
  refine Go.via (B := s₁.setTop (mkF m 86 #[.val (.ref a), .val (.long ((DC4 f) ||| ((((f 5) &&& (255 : Int32)).toInt64) <<< ((16 : Int32) &&& 0x3f).toInt64))), .second] [])) (fun t_ k_ => ?_) ?_
  · show Steps p.tables e below (s₁.setTop (mkF m 76 #[.val (.ref a), .val (.long (DC4 f)), .second] [(.int (f 5)), (.long (DC4 f))])) t_
    refine XS.sipush X0.here hx rfl (hb hby d11_76) ?_
    show Steps p.tables e below (s₁.setTop (mkF m 79 #[.val (.ref a), .val (.long (DC4 f)), .second] [(.int (255 : Int32)), (.int (f 5)), (.long (DC4 f))])) t_
    refine XS.iand X0.here hx rfl (hb hby d11_79) rfl ?_
    show Steps p.tables e below (s₁.setTop (mkF m 80 #[.val (.ref a), .val (.long (DC4 f)), .second] [(.int ((f 5) &&& (255 : Int32))), (.long (DC4 f))])) t_
    refine XS.i2l X0.here hx rfl (hb hby d11_80) rfl ?_
    show Steps p.tables e below (s₁.setTop (mkF m 81 #[.val (.ref a), .val (.long (DC4 f)), .second] [(.long (((f 5) &&& (255 : Int32)).toInt64)), (.long (DC4 f))])) t_
    refine XS.bipush X0.here hx rfl (hb hby d11_81) ?_
    show Steps p.tables e below (s₁.setTop (mkF m 83 #[.val (.ref a), .val (.long (DC4 f)), .second] [(.int (16 : Int32)), (.long (((f 5) &&& (255 : Int32)).toInt64)), (.long (DC4 f))])) t_
    refine XS.lshl X0.here hx rfl (hb hby d11_83) rfl ?_
    show Steps p.tables e below (s₁.setTop (mkF m 84 #[.val (.ref a), .val (.long (DC4 f)), .second] [(.long ((((f 5) &&& (255 : Int32)).toInt64) <<< ((16 : Int32) &&& 0x3f).toInt64)), (.long (DC4 f))])) t_
    refine XS.lor X0.here hx rfl (hb hby d11_84) rfl ?_
    show Steps p.tables e below (s₁.setTop (mkF m 85 #[.val (.ref a), .val (.long (DC4 f)), .second] [(.long ((DC4 f) ||| ((((f 5) &&& (255 : Int32)).toInt64) <<< ((16 : Int32) &&& 0x3f).toInt64)))])) t_
    refine XS.lstoreN X0.here hx rfl (hb hby d11_85) rfl (l' := #[.val (.ref a), .val (.long ((DC4 f) ||| ((((f 5) &&& (255 : Int32)).toInt64) <<< ((16 : Int32) &&& 0x3f).toInt64))), .second]) rfl ?_
    show Steps p.tables e below (s₁.setTop (mkF m 86 #[.val (.ref a), .val (.long ((DC4 f) ||| ((((f 5) &&& (255 : Int32)).toInt64) <<< ((16 : Int32) &&& 0x3f).toInt64))), .second] [])) t_
    exact k_
  show Go p.tables e below _ (s₁.setTop (mkF m 86 #[.val (.ref a), .val (.long (DC5 f)), .second] []))
  refine Go.via (B := s₁.setTop (mkF m 90 #[.val (.ref a), .val (.long (DC5 f)), .second] [(.int (6 : Int32)), (.ref a), (.long (DC5 f))])) (fun t_ k_ => ?_) ?_
  · show Steps p.tables e below (s₁.setTop (mkF m 86 #[.val (.ref a), .val (.long (DC5 f)), .second] [])) t_
    refine XS.lloadN X0.here hx rfl (hb hby d11_86) rfl ?_
    show Steps p.tables e below (s₁.setTop (mkF m 87 #[.val (.ref a), .val (.long (DC5 f)), .second] [(.long (DC5 f))])) t_
    refine XS.aloadN X0.here hx rfl (hb hby d11_87) rfl rfl ?_
    show Steps p.tables e below (s₁.setTop (mkF m 88 #[.val (.ref a), .val (.long (DC5 f)), .second] [(.ref a), (.long (DC5 f))])) t_
    refine XS.bipush X0.here hx rfl (hb hby d11_88) ?_
    show Steps p.tables e below (s₁.setTop (mkF m 90 #[.val (.ref a), .val (.long (DC5 f)), .second] [(.int (6 : Int32)), (.ref a), (.long (DC5 f))])) t_
    exact k_
  refine Go.via (B := s₁.setTop (mkF m 91 #[.val (.ref a), .val (.long (DC5 f)), .second] [(.int (f 6)), (.long (DC5 f))])) (fun t_ k_ => agetB X0 hx hZ e0 A (by decide) (by decide) (g := (mkF m 90 #[.val (.ref a), .val (.long (DC5 f)), .second] [(.int (6 : Int32)), (.ref a), (.long (DC5 f))])) rfl rfl (hb hby d11_90) t_ k_) ?_
  refine Go.via (B := s₁.setTop (mkF m 101 #[.val (.ref a), .val (.long ((DC5 f) ||| ((((f 6) &&& (255 : Int32)).toInt64) <<< ((8 : Int32) &&& 0x3f).toInt64))), .second] [])) (fun t_ k_ => ?_) ?_
  · show Steps p.tables e below (s₁.setTop (mkF m 91 #[.val (.ref a), .val (.long (DC5 f)), .second] [(.int (f 6)), (.long (DC5 f))])) t_
    refine XS.sipush X0.here hx rfl (hb hby d11_91) ?_
    show Steps p.tables e below (s₁.setTop (mkF m 94 #[.val (.ref a), .val (.long (DC5 f)), .second] [(.int (255 : Int32)), (.int (f 6)), (.long (DC5 f))])) t_
    refine XS.iand X0.here hx rfl (hb hby d11_94) rfl ?_
    show Steps p.tables e below (s₁.setTop (mkF m 95 #[.val (.ref a), .val (.long (DC5 f)), .second] [(.int ((f 6) &&& (255 : Int32))), (.long (DC5 f))])) t_
    refine XS.i2l X0.here hx rfl (hb hby d11_95) rfl ?_
    show Steps p.tables e below (s₁.setTop (mkF m 96 #[.val (.ref a), .val (.long (DC5 f)), .second] [(.long (((f 6) &&& (255 : Int32)).toInt64)), (.long (DC5 f))])) t_
    refine XS.bipush X0.here hx rfl (hb hby d11_96) ?_
    show Steps p.tables e below (s₁.setTop (mkF m 98 #[.val (.ref a), .val (.long (DC5 f)), .second] [(.int (8 : Int32)), (.long (((f 6) &&& (255 : Int32)).toInt64)), (.long (DC5 f))])) t_
    refine XS.lshl X0.here hx rfl (hb hby d11_98) rfl ?_
    show Steps p.tables e below (s₁.setTop (mkF m 99 #[.val (.ref a), .val (.long (DC5 f)), .second] [(.long ((((f 6) &&& (255 : Int32)).toInt64) <<< ((8 : Int32) &&& 0x3f).toInt64)), (.long (DC5 f))])) t_
    refine XS.lor X0.here hx rfl (hb hby d11_99) rfl ?_
    show Steps p.tables e below (s₁.setTop (mkF m 100 #[.val (.ref a), .val (.long (DC5 f)), .second] [(.long ((DC5 f) ||| ((((f 6) &&& (255 : Int32)).toInt64) <<< ((8 : Int32) &&& 0x3f).toInt64)))])) t_
    refine XS.lstoreN X0.here hx rfl (hb hby d11_100) rfl (l' := #[.val (.ref a), .val (.long ((DC5 f) ||| ((((f 6) &&& (255 : Int32)).toInt64) <<< ((8 : Int32) &&& 0x3f).toInt64))), .second]) rfl ?_
    show Steps p.tables e below (s₁.setTop (mkF m 101 #[.val (.ref a), .val (.long ((DC5 f) ||| ((((f 6) &&& (255 : Int32)).toInt64) <<< ((8 : Int32) &&& 0x3f).toInt64))), .second] [])) t_
    exact k_
  show Go p.tables e below _ (s₁.setTop (mkF m 101 #[.val (.ref a), .val (.long (DC6 f)), .second] []))
  refine Go.via (B := s₁.setTop (mkF m 105 #[.val (.ref a), .val (.long (DC6 f)), .second] [(.int (7 : Int32)), (.ref a), (.long (DC6 f))])) (fun t_ k_ => ?_) ?_
  · show Steps p.tables e below (s₁.setTop (mkF m 101 #[.val (.ref a), .val (.long (DC6 f)), .second] [])) t_
    refine XS.lloadN X0.here hx rfl (hb hby d11_101) rfl ?_
    show Steps p.tables e below (s₁.setTop (mkF m 102 #[.val (.ref a), .val (.long (DC6 f)), .second] [(.long (DC6 f))])) t_
    refine XS.aloadN X0.here hx rfl (hb hby d11_102) rfl rfl ?_
    show Steps p.tables e below (s₁.setTop (mkF m 103 #[.val (.ref a), .val (.long (DC6 f)), .second] [(.ref a), (.long (DC6 f))])) t_
    refine XS.bipush X0.here hx rfl (hb hby d11_103) ?_
    show Steps p.tables e below (s₁.setTop (mkF m 105 #[.val (.ref a), .val (.long (DC6 f)), .second] [(.int (7 : Int32)), (.ref a), (.long (DC6 f))])) t_
    exact k_
  refine Go.via (B := s₁.setTop (mkF m 106 #[.val (.ref a), .val (.long (DC6 f)), .second] [(.int (f 7)), (.long (DC6 f))])) (fun t_ k_ => agetB X0 hx hZ e0 A (by decide) (by decide) (g := (mkF m 105 #[.val (.ref a), .val (.long (DC6 f)), .second] [(.int (7 : Int32)), (.ref a), (.long (DC6 f))])) rfl rfl (hb hby d11_105) t_ k_) ?_
  refine Go.via (B := s₁.setTop (mkF m 113 #[.val (.ref a), .val (.long ((DC6 f) ||| (((f 7) &&& (255 : Int32)).toInt64))), .second] [])) (fun t_ k_ => ?_) ?_
  · show Steps p.tables e below (s₁.setTop (mkF m 106 #[.val (.ref a), .val (.long (DC6 f)), .second] [(.int (f 7)), (.long (DC6 f))])) t_
    refine XS.sipush X0.here hx rfl (hb hby d11_106) ?_
    show Steps p.tables e below (s₁.setTop (mkF m 109 #[.val (.ref a), .val (.long (DC6 f)), .second] [(.int (255 : Int32)), (.int (f 7)), (.long (DC6 f))])) t_
    refine XS.iand X0.here hx rfl (hb hby d11_109) rfl ?_
    show Steps p.tables e below (s₁.setTop (mkF m 110 #[.val (.ref a), .val (.long (DC6 f)), .second] [(.int ((f 7) &&& (255 : Int32))), (.long (DC6 f))])) t_
    refine XS.i2l X0.here hx rfl (hb hby d11_110) rfl ?_
    show Steps p.tables e below (s₁.setTop (mkF m 111 #[.val (.ref a), .val (.long (DC6 f)), .second] [(.long (((f 7) &&& (255 : Int32)).toInt64)), (.long (DC6 f))])) t_
    refine XS.lor X0.here hx rfl (hb hby d11_111) rfl ?_
    show Steps p.tables e below (s₁.setTop (mkF m 112 #[.val (.ref a), .val (.long (DC6 f)), .second] [(.long ((DC6 f) ||| (((f 7) &&& (255 : Int32)).toInt64)))])) t_
    refine XS.lstoreN X0.here hx rfl (hb hby d11_112) rfl (l' := #[.val (.ref a), .val (.long ((DC6 f) ||| (((f 7) &&& (255 : Int32)).toInt64))), .second]) rfl ?_
    show Steps p.tables e below (s₁.setTop (mkF m 113 #[.val (.ref a), .val (.long ((DC6 f) ||| (((f 7) &&& (255 : Int32)).toInt64))), .second] [])) t_
    exact k_
  show Go p.tables e below _ (s₁.setTop (mkF m 113 #[.val (.ref a), .val (.long (DC7 f)), .second] []))
  refine Go.via (B := s₁.setTop (mkF m 114 #[.val (.ref a), .val (.long (DC7 f)), .second] [(.long (DC7 f))])) (fun t_ k_ => ?_) ?_
  · show Steps p.tables e below (s₁.setTop (mkF m 113 #[.val (.ref a), .val (.long (DC7 f)), .second] [])) t_
    refine XS.lloadN X0.here hx rfl (hb hby d11_113) rfl ?_
    show Steps p.tables e below (s₁.setTop (mkF m 114 #[.val (.ref a), .val (.long (DC7 f)), .second] [(.long (DC7 f))])) t_
    exact k_
  exact Go.leave X0 hlk (v := (some (.long (DC7 f)))) (fun h => by rw [hrt] at h; cases h) (fun fs hr => retL X0 hx hrt (hb hby d11_114) hr) (by decide) (by decide) (⟨rfl, N0, e0⟩)
theorem pn_0 : plainName "com/example/bytewright/bytewright/classfile/ByteWriterU4AtPinLaw" = true := by first | (simp [plainName, overriddenIn]; done) | decide +kernel
theorem ef_0 (m : MethodId) (x0 : Int32) (x1 : Int32) (x2 : Int32) (x3 : Int32) (x4 : Int32) : entryFrame m #[(.int x0), (.int x1), (.int x2), (.int x3), (.int x4)] maxLocals = mkF m 0 #[.val (.int x0), .val (.int x1), .val (.int x2), .val (.int x3), .val (.int x4), .unset, .unset, .unset, .unset, .unset, .unset, .unset, .unset, .unset, .unset] [] := by first | (simp [entryFrame, mkF, argsToLocals, Value.category, maxLocals]; done) | rfl
def Q0 (Z : State) (p0 : Int32) (p1 : Int32) (p2 : Int32) (p3 : Int32) (p4 : Int32) (h0 : Heap) (n0 : Nat) (v : Option Value) (h : Heap) (L : List Loc) : Prop := v = some (.int 1) ∧ Fr n0 L
set_option maxRecDepth 65536 in
set_option maxHeartbeats 40000000 in
theorem rm0 (l : Launch) (Z : State) (a0 : Array Value) (hw : ∀ d ∈ tables_1, d.before a0 Z = true) (ws : List Jvm.Cond) (p0 : Int32) (p1 : Int32) (p2 : Int32) (p3 : Int32) (p4 : Int32) (h0 : Heap) (n0 : Nat) (Z0 : n0 ≤ h0.size) :
    MetFree l x (head1 (Jvm.Cond.code x code maxLocals ret :: ws) room_1) (fun a_ U_ => a_ = #[(.int p0), (.int p1), (.int p2), (.int p3), (.int p4)] ∧ Z.Warmed39 U_.vm ∧ U_.heap = h0) (fun _ _ _ _ _ => True) (fun _ U_ o_ V_ => ∃ v_ L_, o_ = .returned v_ ∧ Q0 Z p0 p1 p2 p3 p4 h0 n0 v_ V_.heap L_ ∧ FrameEnd U_ o_ V_ L_ 24 128) := by
  refine MetFree.of_bodySF (plainFor_of_name pn_0) hisR ?_
  intro p e s m args below meth c s₁ Bd hml0 hP hK
  obtain ⟨rfl, hZ, hh⟩ := hP
  have hx := Bd.exec
  have hby := Bd.bytes
  have hml : c.maxLocals = 15 := hml0
  have hown : s.vm.findClass "com/example/bytewright/bytewright/classfile/ByteWriterU4AtPinLaw" = some m.cls := findClass_of_methodNamed Bd.named
  have hnm := (name_of_methodNamed Bd.named Bd.method).1
  have hlk : meth.locks = false := BodyLoose.notSynchronized Bd
  have hrt := Bd.returns
  have X0 : Stand p l e room_1 s m #[(.int p0), (.int p1), (.int p2), (.int p3), (.int p4)] below meth c s₁ [] 0 0 := Stand.of_body Bd
  have e0 : s₁.heap = h0 := by rw [← hh, Bd.state]; rfl
  have N0 := Fr.nil n0
  show Go p.tables e below (PQ s below (Q0 Z p0 p1 p2 p3 p4 h0 n0) 24 128) _
  refine Go.via (B := s₁.setTop (mkF m 0 #[.val (.int p0), .val (.int p1), .val (.int p2), .val (.int p3), .val (.int p4), .unset, .unset, .unset, .unset, .unset, .unset, .unset, .unset, .unset, .unset] [])) (fun t_ k_ => castTop (ef_0 m p0 p1 p2 p3 p4) k_) ?_
  obtain ⟨T47, h47, X47, e47, E47, A47, D47, -, st47⟩ := newO X0 hx hZ hown (hw _ (List.mem_of_getElem? (i := 0) rfl)) (hw _ (List.mem_of_getElem? (i := 1) rfl)) (hw _ (List.mem_of_getElem? (i := 2) rfl)) e0 (g := (mkF m 0 #[.val (.int p0), .val (.int p1), .val (.int p2), .val (.int p3), .val (.int p4), .unset, .unset, .unset, .unset, .unset, .unset, .unset, .unset, .unset, .unset] [])) rfl (hb hby at_0) (by decide) (by decide)
  obtain ⟨b47, g47⟩ : ∃ z, z = h0.size := ⟨_, rfl⟩
  rw [← g47] at A47 D47 st47
  have gb47 : n0 ≤ b47 := Nat.le_trans Z0 (Nat.le_of_eq g47.symm)
  have Z47 : n0 ≤ h47.size := Nat.le_trans Z0 E47.1
  refine Go.via st47 ?_
  show Go p.tables e below _ (T47.setTop (mkF m 3 #[.val (.int p0), .val (.int p1), .val (.int p2), .val (.int p3), .val (.int p4), .unset, .unset, .unset, .unset, .unset, .unset, .unset, .unset, .unset, .unset] [(.ref b47)]))
  have Fb := D47 (Or.inl (hw _ (List.mem_of_getElem? (i := 11) rfl))) (ty := (.array .byte)) (by decide)
  have Fs := D47 (Or.inl (hw _ (List.mem_of_getElem? (i := 22) rfl))) (ty := .int) (by decide)
  have ga := gb47
  have hcap := c_and p0 (15 : Int32) (by decide)
  have e15 : (15 : Int32).toInt = 15 := rfl
  rw [e15] at hcap
  refine Go.via (B := T47.setTop (mkF m 8 #[.val (.int p0), .val (.int p1), .val (.int p2), .val (.int p3), .val (.int p4), .unset, .unset, .unset, .unset, .unset, .unset, .unset, .unset, .unset, .unset] [(.int (p0 &&& (15 : Int32))), (.ref b47), (.ref b47)])) (fun t_ k_ => ?_) ?_
  · show Steps p.tables e below (T47.setTop (mkF m 3 #[.val (.int p0), .val (.int p1), .val (.int p2), .val (.int p3), .val (.int p4), .unset, .unset, .unset, .unset, .unset, .unset, .unset, .unset, .unset, .unset] [(.ref b47)])) t_
    refine XS.dup X47.here hx rfl (hb hby at_3) rfl rfl ?_
    show Steps p.tables e below (T47.setTop (mkF m 4 #[.val (.int p0), .val (.int p1), .val (.int p2), .val (.int p3), .val (.int p4), .unset, .unset, .unset, .unset, .unset, .unset, .unset, .unset, .unset, .unset] [(.ref b47), (.ref b47)])) t_
    refine XS.iloadN X47.here hx rfl (hb hby at_4) rfl ?_
    show Steps p.tables e below (T47.setTop (mkF m 5 #[.val (.int p0), .val (.int p1), .val (.int p2), .val (.int p3), .val (.int p4), .unset, .unset, .unset, .unset, .unset, .unset, .unset, .unset, .unset, .unset] [(.int p0), (.ref b47), (.ref b47)])) t_
    refine XS.bipush X47.here hx rfl (hb hby at_5) ?_
    show Steps p.tables e below (T47.setTop (mkF m 7 #[.val (.int p0), .val (.int p1), .val (.int p2), .val (.int p3), .val (.int p4), .unset, .unset, .unset, .unset, .unset, .unset, .unset, .unset, .unset, .unset] [(.int (15 : Int32)), (.int p0), (.ref b47), (.ref b47)])) t_
    refine XS.iand X47.here hx rfl (hb hby at_7) rfl ?_
    show Steps p.tables e below (T47.setTop (mkF m 8 #[.val (.int p0), .val (.int p1), .val (.int p2), .val (.int p3), .val (.int p4), .unset, .unset, .unset, .unset, .unset, .unset, .unset, .unset, .unset, .unset] [(.int (p0 &&& (15 : Int32))), (.ref b47), (.ref b47)])) t_
    exact k_
  obtain ⟨_, _, ⟨T48, L48, k48, n48⟩, -, X48, ⟨Lc48, hQ48, l48, y48, z48⟩, st48⟩ := X47.specialBack hx (y := (⟨"com/example/bytewright/bytewright/classfile/ByteWriter", "<init>", "(I)V"⟩ : MethodName)) rfl hown (mvT hZ (hw _ (List.mem_of_getElem? (i := 3) rfl))) (mvT hZ (hw _ (List.mem_of_getElem? (i := 4) rfl))) (mvT hZ (hw _ (List.mem_of_getElem? (i := 5) rfl))) (by decide) (backOf (W := 1) (rm1 l Z a0 hw [] b47 (p0 &&& (15 : Int32))  h47 n0 Z47 A47 Fb Fs ga hcap.1 hcap.2) hZ (hw _ (List.mem_of_getElem? (i := 5) rfl)) (hw _ (List.mem_of_getElem? (i := 2) rfl)) (by decide) (by decide)) (g := (mkF m 8 #[.val (.int p0), .val (.int p1), .val (.int p2), .val (.int p3), .val (.int p4), .unset, .unset, .unset, .unset, .unset, .unset, .unset, .unset, .unset, .unset] [(.int (p0 &&& (15 : Int32))), (.ref b47), (.ref b47)])) rfl (by rw [hml]; rfl) (Steps.refl _) (a := b47) (argsL := [(.int (p0 &&& (15 : Int32)))]) (rest := [(.ref b47)]) (lenOf pd2 rfl) rfl (by show 2 * 0 + _ ≤ _; exact Nat.le_of_eq rfl) (hb hby at_8) (fun _ _ => ⟨rfl, e47, (by decide : 1 + 1 ≤ _), (by decide : 2 + 15 ≤ _)⟩)
  dsimp only [Pt.U, Pt.locs, Pt.cells, Pt.slots] at X48 l48 y48 z48 st48 hQ48
  subst l48 y48 z48
  obtain ⟨rfl, N48q, r48, gr48, H48⟩ := hQ48
  have N48 := Fr.app N0 N48q
  refine Go.via (fun t_ k_ => st48.trans k_) ?_
  show Go p.tables e below _ (T48.setTop (mkF m 11 #[.val (.int p0), .val (.int p1), .val (.int p2), .val (.int p3), .val (.int p4), .unset, .unset, .unset, .unset, .unset, .unset, .unset, .unset, .unset, .unset] [(.ref b47)]))
  have hcn := own_nat hcap.1
  have Z48 := H48.ge ga
  refine Go.via (B := T48.setTop (mkF m 16 #[.val (.int p0), .val (.int p1), .val (.int p2), .val (.int p3), .val (.int p4), .val (.ref b47), .unset, .unset, .unset, .unset, .unset, .unset, .unset, .unset, .unset] [(.int p1), (.ref b47)])) (fun t_ k_ => ?_) ?_
  · show Steps p.tables e below (T48.setTop (mkF m 11 #[.val (.int p0), .val (.int p1), .val (.int p2), .val (.int p3), .val (.int p4), .unset, .unset, .unset, .unset, .unset, .unset, .unset, .unset, .unset, .unset] [(.ref b47)])) t_
    refine XS.astore X48.here hx rfl (hb hby at_11) rfl rfl (l' := #[.val (.int p0), .val (.int p1), .val (.int p2), .val (.int p3), .val (.int p4), .val (.ref b47), .unset, .unset, .unset, .unset, .unset, .unset, .unset, .unset, .unset]) rfl ?_
    show Steps p.tables e below (T48.setTop (mkF m 13 #[.val (.int p0), .val (.int p1), .val (.int p2), .val (.int p3), .val (.int p4), .val (.ref b47), .unset, .unset, .unset, .unset, .unset, .unset, .unset, .unset, .unset] [])) t_
    refine XS.aload X48.here hx rfl (hb hby at_13) rfl rfl ?_
    show Steps p.tables e below (T48.setTop (mkF m 15 #[.val (.int p0), .val (.int p1), .val (.int p2), .val (.int p3), .val (.int p4), .val (.ref b47), .unset, .unset, .unset, .unset, .unset, .unset, .unset, .unset, .unset] [(.ref b47)])) t_
    refine XS.iloadN X48.here hx rfl (hb hby at_15) rfl ?_
    show Steps p.tables e below (T48.setTop (mkF m 16 #[.val (.int p0), .val (.int p1), .val (.int p2), .val (.int p3), .val (.int p4), .val (.ref b47), .unset, .unset, .unset, .unset, .unset, .unset, .unset, .unset, .unset] [(.int p1), (.ref b47)])) t_
    exact k_
  obtain ⟨cq49, kq49, q49a, q49b, q49c⟩ := isOf hZ rfl H48.1
  obtain ⟨_, _, ⟨T49, L49, k49, n49⟩, -, X49, ⟨Lc49, hQ49, l49, y49, z49⟩, st49⟩ := X48.virtualBack hx (y := (⟨"com/example/bytewright/bytewright/classfile/ByteWriter", "u4", "(I)V"⟩ : MethodName)) (z := (⟨"com/example/bytewright/bytewright/classfile/ByteWriter", "u4", "(I)V"⟩ : MethodName)) hown (mvT hZ (hw _ (List.mem_of_getElem? (i := 12) rfl))) (mvT hZ (hw _ (List.mem_of_getElem? (i := 13) rfl))) (notFace_of_selects (args := #[]) (mvT hZ (hw _ (List.mem_of_getElem? (i := 15) rfl)))) (mvT hZ (hw _ (List.mem_of_getElem? (i := 15) rfl))) (mvT hZ (hw _ (List.mem_of_getElem? (i := 14) rfl))) (by decide) (backOf (W := 0) (rm3 l Z a0 hw [] b47 p1 r48 _ _ _ T48.heap n0 Z48 H48 ga gr48 (by decide) (by decide) (by omega) (by have : (0 : Int32).toInt = 0 := rfl; omega)) hZ (hw _ (List.mem_of_getElem? (i := 16) rfl)) (hw _ (List.mem_of_getElem? (i := 2) rfl)) (by decide) (by decide)) q49a q49c (g := (mkF m 16 #[.val (.int p0), .val (.int p1), .val (.int p2), .val (.int p3), .val (.int p4), .val (.ref b47), .unset, .unset, .unset, .unset, .unset, .unset, .unset, .unset, .unset] [(.int p1), (.ref b47)])) rfl (by rw [hml]; rfl) (Steps.refl _) (argsL := [(.int p1)]) (rest := []) (lenOf pd2 rfl) rfl (by show 2 * 0 + _ ≤ _; exact Nat.le_of_eq rfl) (hb hby at_16) (fun _ _ => ⟨rfl, rfl, (by decide : 2 + 1 ≤ _), (by decide : 17 + 15 ≤ _)⟩)
  dsimp only [Pt.U, Pt.locs, Pt.cells, Pt.slots] at X49 l49 y49 z49 st49 hQ49
  subst l49 y49 z49
  obtain ⟨rfl, N49q, r49, n49', f49, gr49, H49, hb49, hc49, hd49, u490, u491, u492, u493⟩ := hQ49
  have N49 := Fr.app N48 N49q
  refine Go.via (fun t_ k_ => st49.trans k_) ?_
  show Go p.tables e below _ (T49.setTop (mkF m 19 #[.val (.int p0), .val (.int p1), .val (.int p2), .val (.int p3), .val (.int p4), .val (.ref b47), .unset, .unset, .unset, .unset, .unset, .unset, .unset, .unset, .unset] []))
  have Z49 := H49.ge ga
  have z4 : (0 : Int32) + 4 = 4 := rfl
  rw [z4] at H49
  have i0 : (0 : Int32).toInt = 0 := rfl
  rw [i0] at hb49
  have j0 : (0 : Int32).toNatClampNeg = 0 := rfl
  rw [j0] at u490 u491 u492 u493
  refine Go.via (B := T49.setTop (mkF m 22 #[.val (.int p0), .val (.int p1), .val (.int p2), .val (.int p3), .val (.int p4), .val (.ref b47), .unset, .unset, .unset, .unset, .unset, .unset, .unset, .unset, .unset] [(.int p2), (.ref b47)])) (fun t_ k_ => ?_) ?_
  · show Steps p.tables e below (T49.setTop (mkF m 19 #[.val (.int p0), .val (.int p1), .val (.int p2), .val (.int p3), .val (.int p4), .val (.ref b47), .unset, .unset, .unset, .unset, .unset, .unset, .unset, .unset, .unset] [])) t_
    refine XS.aload X49.here hx rfl (hb hby at_19) rfl rfl ?_
    show Steps p.tables e below (T49.setTop (mkF m 21 #[.val (.int p0), .val (.int p1), .val (.int p2), .val (.int p3), .val (.int p4), .val (.ref b47), .unset, .unset, .unset, .unset, .unset, .unset, .unset, .unset, .unset] [(.ref b47)])) t_
    refine XS.iloadN X49.here hx rfl (hb hby at_21) rfl ?_
    show Steps p.tables e below (T49.setTop (mkF m 22 #[.val (.int p0), .val (.int p1), .val (.int p2), .val (.int p3), .val (.int p4), .val (.ref b47), .unset, .unset, .unset, .unset, .unset, .unset, .unset, .unset, .unset] [(.int p2), (.ref b47)])) t_
    exact k_
  obtain ⟨cq50, kq50, q50a, q50b, q50c⟩ := isOf hZ rfl H49.1
  obtain ⟨_, _, ⟨T50, L50, k50, n50⟩, -, X50, ⟨Lc50, hQ50, l50, y50, z50⟩, st50⟩ := X49.virtualBack hx (y := (⟨"com/example/bytewright/bytewright/classfile/ByteWriter", "u4", "(I)V"⟩ : MethodName)) (z := (⟨"com/example/bytewright/bytewright/classfile/ByteWriter", "u4", "(I)V"⟩ : MethodName)) hown (mvT hZ (hw _ (List.mem_of_getElem? (i := 12) rfl))) (mvT hZ (hw _ (List.mem_of_getElem? (i := 13) rfl))) (notFace_of_selects (args := #[]) (mvT hZ (hw _ (List.mem_of_getElem? (i := 15) rfl)))) (mvT hZ (hw _ (List.mem_of_getElem? (i := 15) rfl))) (mvT hZ (hw _ (List.mem_of_getElem? (i := 14) rfl))) (by decide) (backOf (W := 0) (rm3 l Z a0 hw [] b47 p2 r49 n49' f49 4 T49.heap n0 Z49 H49 ga gr49 (by decide) (by decide) hc49 (by have : (4 : Int32).toInt = 4 := rfl; omega)) hZ (hw _ (List.mem_of_getElem? (i := 16) rfl)) (hw _ (List.mem_of_getElem? (i := 2) rfl)) (by decide) (by decide)) q50a q50c (g := (mkF m 22 #[.val (.int p0), .val (.int p1), .val (.int p2), .val (.int p3), .val (.int p4), .val (.ref b47), .unset, .unset, .unset, .unset, .unset, .unset, .unset, .unset, .unset] [(.int p2), (.ref b47)])) rfl (by rw [hml]; rfl) (Steps.refl _) (argsL := [(.int p2)]) (rest := []) (lenOf pd2 rfl) rfl (by show 2 * 0 + _ ≤ _; exact Nat.le_of_eq rfl) (hb hby at_22) (fun _ _ => ⟨rfl, rfl, (by decide : 3 + 1 ≤ _), (by decide : 32 + 15 ≤ _)⟩)
  dsimp only [Pt.U, Pt.locs, Pt.cells, Pt.slots] at X50 l50 y50 z50 st50 hQ50
  subst l50 y50 z50
  obtain ⟨rfl, N50q, r50, n50', f50, gr50, H50, hb50, hc50, hd50, u500, u501, u502, u503⟩ := hQ50
  have N50 := Fr.app N49 N50q
  refine Go.via (fun t_ k_ => st50.trans k_) ?_
  show Go p.tables e below _ (T50.setTop (mkF m 25 #[.val (.int p0), .val (.int p1), .val (.int p2), .val (.int p3), .val (.int p4), .val (.ref b47), .unset, .unset, .unset, .unset, .unset, .unset, .unset, .unset, .unset] []))
  have Z50 := H50.ge ga
  have z8 : (4 : Int32) + 4 = 8 := rfl
  rw [z8] at H50
  have i4 : (4 : Int32).toInt = 4 := rfl
  rw [i4] at hb50 hd50
  have j4 : (4 : Int32).toNatClampNeg = 4 := rfl
  rw [j4] at u500 u501 u502 u503
  refine Go.via (B := T50.setTop (mkF m 33 #[.val (.int p0), .val (.int p1), .val (.int p2), .val (.int p3), .val (.int p4), .val (.ref b47), .val (.int ((p3 &&& (2147483647 : Int32)) % (5 : Int32))), .unset, .unset, .unset, .unset, .unset, .unset, .unset, .unset] [])) (fun t_ k_ => ?_) ?_
  · show Steps p.tables e below (T50.setTop (mkF m 25 #[.val (.int p0), .val (.int p1), .val (.int p2), .val (.int p3), .val (.int p4), .val (.ref b47), .unset, .unset, .unset, .unset, .unset, .unset, .unset, .unset, .unset] [])) t_
    refine XS.iloadN X50.here hx rfl (hb hby at_25) rfl ?_
    show Steps p.tables e below (T50.setTop (mkF m 26 #[.val (.int p0), .val (.int p1), .val (.int p2), .val (.int p3), .val (.int p4), .val (.ref b47), .unset, .unset, .unset, .unset, .unset, .unset, .unset, .unset, .unset] [(.int p3)])) t_
    refine X50.ldcInt hx hown (mvT hZ (hw _ (List.mem_of_getElem? (i := 38) rfl))) (g := (mkF m 26 #[.val (.int p0), .val (.int p1), .val (.int p2), .val (.int p3), .val (.int p4), .val (.ref b47), .unset, .unset, .unset, .unset, .unset, .unset, .unset, .unset, .unset] [(.int p3)])) rfl (hb hby at_26) _ ?_
    show Steps p.tables e below (T50.setTop (mkF m 28 #[.val (.int p0), .val (.int p1), .val (.int p2), .val (.int p3), .val (.int p4), .val (.ref b47), .unset, .unset, .unset, .unset, .unset, .unset, .unset, .unset, .unset] [(.int (2147483647 : Int32)), (.int p3)])) t_
    refine XS.iand X50.here hx rfl (hb hby at_28) rfl ?_
    show Steps p.tables e below (T50.setTop (mkF m 29 #[.val (.int p0), .val (.int p1), .val (.int p2), .val (.int p3), .val (.int p4), .val (.ref b47), .unset, .unset, .unset, .unset, .unset, .unset, .unset, .unset, .unset] [(.int (p3 &&& (2147483647 : Int32)))])) t_
    refine XS.iconst X50.here hx rfl (hb hby at_29) ?_
    show Steps p.tables e below (T50.setTop (mkF m 30 #[.val (.int p0), .val (.int p1), .val (.int p2), .val (.int p3), .val (.int p4), .val (.ref b47), .unset, .unset, .unset, .unset, .unset, .unset, .unset, .unset, .unset] [(.int (5 : Int32)), (.int (p3 &&& (2147483647 : Int32)))])) t_
    refine iremM X50 hx rfl (hb hby at_30) rfl (by decide) ?_
    show Steps p.tables e below (T50.setTop (mkF m 31 #[.val (.int p0), .val (.int p1), .val (.int p2), .val (.int p3), .val (.int p4), .val (.ref b47), .unset, .unset, .unset, .unset, .unset, .unset, .unset, .unset, .unset] [(.int ((p3 &&& (2147483647 : Int32)) % (5 : Int32)))])) t_
    refine XS.istore X50.here hx rfl (hb hby at_31) rfl (l' := #[.val (.int p0), .val (.int p1), .val (.int p2), .val (.int p3), .val (.int p4), .val (.ref b47), .val (.int ((p3 &&& (2147483647 : Int32)) % (5 : Int32))), .unset, .unset, .unset, .unset, .unset, .unset, .unset, .unset]) rfl ?_
    show Steps p.tables e below (T50.setTop (mkF m 33 #[.val (.int p0), .val (.int p1), .val (.int p2), .val (.int p3), .val (.int p4), .val (.ref b47), .val (.int ((p3 &&& (2147483647 : Int32)) % (5 : Int32))), .unset, .unset, .unset, .unset, .unset, .unset, .unset, .unset] [])) t_
    exact k_
  show Go p.tables e below _ (T50.setTop (mkF m 33 #[.val (.int p0), .val (.int p1), .val (.int p2), .val (.int p3), .val (.int p4), .val (.ref b47), .val (.int (PP p3)), .unset, .unset, .unset, .unset, .unset, .unset, .unset, .unset] []))
  have hpp := own_pp p3
  generalize PP p3 = pp at hpp ⊢
  refine Go.via (B := T50.setTop (mkF m 39 #[.val (.int p0), .val (.int p1), .val (.int p2), .val (.int p3), .val (.int p4), .val (.ref b47), .val (.int pp), .unset, .unset, .unset, .unset, .unset, .unset, .unset, .unset] [(.int p4), (.int pp), (.ref b47)])) (fun t_ k_ => ?_) ?_
  · show Steps p.tables e below (T50.setTop (mkF m 33 #[.val (.int p0), .val (.int p1), .val (.int p2), .val (.int p3), .val (.int p4), .val (.ref b47), .val (.int pp), .unset, .unset, .unset, .unset, .unset, .unset, .unset, .unset] [])) t_
    refine XS.aload X50.here hx rfl (hb hby at_33) rfl rfl ?_
    show Steps p.tables e below (T50.setTop (mkF m 35 #[.val (.int p0), .val (.int p1), .val (.int p2), .val (.int p3), .val (.int p4), .val (.ref b47), .val (.int pp), .unset, .unset, .unset, .unset, .unset, .unset, .unset, .unset] [(.ref b47)])) t_
    refine XS.iload X50.here hx rfl (hb hby at_35) rfl ?_
    show Steps p.tables e below (T50.setTop (mkF m 37 #[.val (.int p0), .val (.int p1), .val (.int p2), .val (.int p3), .val (.int p4), .val (.ref b47), .val (.int pp), .unset, .unset, .unset, .unset, .unset, .unset, .unset, .unset] [(.int pp), (.ref b47)])) t_
    refine XS.iload X50.here hx rfl (hb hby at_37) rfl ?_
    show Steps p.tables e below (T50.setTop (mkF m 39 #[.val (.int p0), .val (.int p1), .val (.int p2), .val (.int p3), .val (.int p4), .val (.ref b47), .val (.int pp), .unset, .unset, .unset, .unset, .unset, .unset, .unset, .unset] [(.int p4), (.int pp), (.ref b47)])) t_
    exact k_
  obtain ⟨cq51, kq51, q51a, q51b, q51c⟩ := isOf hZ rfl H50.1
  obtain ⟨_, _, ⟨T51, L51, k51, n51⟩, -, X51, ⟨Lc51, hQ51, l51, y51, z51⟩, st51⟩ := X50.virtualBack hx (y := (⟨"com/example/bytewright/bytewright/classfile/ByteWriter", "u4At", "(II)V"⟩ : MethodName)) (z := (⟨"com/example/bytewright/bytewright/classfile/ByteWriter", "u4At", "(II)V"⟩ : MethodName)) hown (mvT hZ (hw _ (List.mem_of_getElem? (i := 39) rfl))) (mvT hZ (hw _ (List.mem_of_getElem? (i := 40) rfl))) (notFace_of_selects (args := #[]) (mvT hZ (hw _ (List.mem_of_getElem? (i := 42) rfl)))) (mvT hZ (hw _ (List.mem_of_getElem? (i := 42) rfl))) (mvT hZ (hw _ (List.mem_of_getElem? (i := 41) rfl))) (by decide) (backOf (W := 0) (rm8 l Z a0 hw [] b47 pp p4 r50 n50' f50 8 T50.heap n0 Z50 H50 ga gr50 hpp.1 hpp.2 (by omega)) hZ (hw _ (List.mem_of_getElem? (i := 43) rfl)) (hw _ (List.mem_of_getElem? (i := 2) rfl)) (by decide) (by decide)) q51a q51c (g := (mkF m 39 #[.val (.int p0), .val (.int p1), .val (.int p2), .val (.int p3), .val (.int p4), .val (.ref b47), .val (.int pp), .unset, .unset, .unset, .unset, .unset, .unset, .unset, .unset] [(.int p4), (.int pp), (.ref b47)])) rfl (by rw [hml]; rfl) (Steps.refl _) (argsL := [(.int pp), (.int p4)]) (rest := []) (lenOf pd3 rfl) rfl (by show 2 * 0 + _ ≤ _; exact Nat.le_of_eq rfl) (hb hby at_39) (fun _ _ => ⟨rfl, rfl, (by decide : 4 + 0 ≤ _), (by decide : 47 + 0 ≤ _)⟩)
  dsimp only [Pt.U, Pt.locs, Pt.cells, Pt.slots] at X51 l51 y51 z51 st51 hQ51
  subst l51 y51 z51
  obtain ⟨rfl, N51q, f51, H51, hf51⟩ := hQ51
  have N51 := Fr.app N50 N51q
  refine Go.via (fun t_ k_ => st51.trans k_) ?_
  show Go p.tables e below _ (T51.setTop (mkF m 42 #[.val (.int p0), .val (.int p1), .val (.int p2), .val (.int p3), .val (.int p4), .val (.ref b47), .val (.int pp), .unset, .unset, .unset, .unset, .unset, .unset, .unset, .unset] []))
  have Z51 := H51.ge ga
  refine Go.via (B := T51.setTop (mkF m 44 #[.val (.int p0), .val (.int p1), .val (.int p2), .val (.int p3), .val (.int p4), .val (.ref b47), .val (.int pp), .unset, .unset, .unset, .unset, .unset, .unset, .unset, .unset] [(.ref b47)])) (fun t_ k_ => ?_) ?_
  · show Steps p.tables e below (T51.setTop (mkF m 42 #[.val (.int p0), .val (.int p1), .val (.int p2), .val (.int p3), .val (.int p4), .val (.ref b47), .val (.int pp), .unset, .unset, .unset, .unset, .unset, .unset, .unset, .unset] [])) t_
    refine XS.aload X51.here hx rfl (hb hby at_42) rfl rfl ?_
    show Steps p.tables e below (T51.setTop (mkF m 44 #[.val (.int p0), .val (.int p1), .val (.int p2), .val (.int p3), .val (.int p4), .val (.ref b47), .val (.int pp), .unset, .unset, .unset, .unset, .unset, .unset, .unset, .unset] [(.ref b47)])) t_
    exact k_
  obtain ⟨cq52, kq52, q52a, q52b, q52c⟩ := isOf hZ rfl H51.1
  obtain ⟨_, _, ⟨T52, L52, k52, n52⟩, -, X52, ⟨Lc52, hQ52, l52, y52, z52⟩, st52⟩ := X51.virtualBack hx (y := (⟨"com/example/bytewright/bytewright/classfile/ByteWriter", "size", "()I"⟩ : MethodName)) (z := (⟨"com/example/bytewright/bytewright/classfile/ByteWriter", "size", "()I"⟩ : MethodName)) hown (mvT hZ (hw _ (List.mem_of_getElem? (i := 44) rfl))) (mvT hZ (hw _ (List.mem_of_getElem? (i := 45) rfl))) (notFace_of_selects (args := #[]) (mvT hZ (hw _ (List.mem_of_getElem? (i := 47) rfl)))) (mvT hZ (hw _ (List.mem_of_getElem? (i := 47) rfl))) (mvT hZ (hw _ (List.mem_of_getElem? (i := 46) rfl))) (by decide) (backOf (W := 0) (rm9 l Z a0 hw [] b47 r50 n50' f51 8 T51.heap n0 Z51 H51) hZ (hw _ (List.mem_of_getElem? (i := 48) rfl)) (hw _ (List.mem_of_getElem? (i := 2) rfl)) (by decide) (by decide)) q52a q52c (g := (mkF m 44 #[.val (.int p0), .val (.int p1), .val (.int p2), .val (.int p3), .val (.int p4), .val (.ref b47), .val (.int pp), .unset, .unset, .unset, .unset, .unset, .unset, .unset, .unset] [(.ref b47)])) rfl (by rw [hml]; rfl) (Steps.refl _) (argsL := []) (rest := []) (lenOf pd4 rfl) rfl (by show 2 * 0 + _ ≤ _; exact Nat.le_of_eq rfl) (hb hby at_44) (fun _ _ => ⟨rfl, rfl, (by decide : 4 + 0 ≤ _), (by decide : 47 + 0 ≤ _)⟩)
  dsimp only [Pt.U, Pt.locs, Pt.cells, Pt.slots] at X52 l52 y52 z52 st52 hQ52
  subst l52 y52 z52
  obtain ⟨rfl, N52q, e52⟩ := hQ52
  have N52 := Fr.app N51 N52q
  refine Go.via (fun t_ k_ => st52.trans k_) ?_
  show Go p.tables e below _ (T52.setTop (mkF m 47 #[.val (.int p0), .val (.int p1), .val (.int p2), .val (.int p3), .val (.int p4), .val (.ref b47), .val (.int pp), .unset, .unset, .unset, .unset, .unset, .unset, .unset, .unset] [(.int (8 : Int32))]))
  refine Go.via (B := T52.setTop (mkF m 49 #[.val (.int p0), .val (.int p1), .val (.int p2), .val (.int p3), .val (.int p4), .val (.ref b47), .val (.int pp), .unset, .unset, .unset, .unset, .unset, .unset, .unset, .unset] [(.int (8 : Int32)), (.int (8 : Int32))])) (fun t_ k_ => ?_) ?_
  · show Steps p.tables e below (T52.setTop (mkF m 47 #[.val (.int p0), .val (.int p1), .val (.int p2), .val (.int p3), .val (.int p4), .val (.ref b47), .val (.int pp), .unset, .unset, .unset, .unset, .unset, .unset, .unset, .unset] [(.int (8 : Int32))])) t_
    refine XS.bipush X52.here hx rfl (hb hby at_47) ?_
    show Steps p.tables e below (T52.setTop (mkF m 49 #[.val (.int p0), .val (.int p1), .val (.int p2), .val (.int p3), .val (.int p4), .val (.ref b47), .val (.int pp), .unset, .unset, .unset, .unset, .unset, .unset, .unset, .unset] [(.int (8 : Int32)), (.int (8 : Int32))])) t_
    exact k_
  refine Go.via (B := T52.setTop (mkF m 54 #[.val (.int p0), .val (.int p1), .val (.int p2), .val (.int p3), .val (.int p4), .val (.ref b47), .val (.int pp), .unset, .unset, .unset, .unset, .unset, .unset, .unset, .unset] [])) (fun t_ k_ => XS.icmpYes X52.here hx rfl (pc0 := 49) (pc' := 54) rfl (hb hby at_49) rfl ((teq (rfl : (8 : Int32) = (8 : Int32))).1) (by decide) (by decide) k_) ?_
  refine Go.via (B := T52.setTop (mkF m 56 #[.val (.int p0), .val (.int p1), .val (.int p2), .val (.int p3), .val (.int p4), .val (.ref b47), .val (.int pp), .unset, .unset, .unset, .unset, .unset, .unset, .unset, .unset] [(.ref b47)])) (fun t_ k_ => ?_) ?_
  · show Steps p.tables e below (T52.setTop (mkF m 54 #[.val (.int p0), .val (.int p1), .val (.int p2), .val (.int p3), .val (.int p4), .val (.ref b47), .val (.int pp), .unset, .unset, .unset, .unset, .unset, .unset, .unset, .unset] [])) t_
    refine XS.aload X52.here hx rfl (hb hby at_54) rfl rfl ?_
    show Steps p.tables e below (T52.setTop (mkF m 56 #[.val (.int p0), .val (.int p1), .val (.int p2), .val (.int p3), .val (.int p4), .val (.ref b47), .val (.int pp), .unset, .unset, .unset, .unset, .unset, .unset, .unset, .unset] [(.ref b47)])) t_
    exact k_
  obtain ⟨cq53, kq53, q53a, q53b, q53c⟩ := isOf hZ e52 H51.1
  obtain ⟨_, _, ⟨T53, L53, k53, n53⟩, -, X53, ⟨Lc53, hQ53, l53, y53, z53⟩, st53⟩ := X52.virtualBack hx (y := (⟨"com/example/bytewright/bytewright/classfile/ByteWriter", "toByteArray", "()[B"⟩ : MethodName)) (z := (⟨"com/example/bytewright/bytewright/classfile/ByteWriter", "toByteArray", "()[B"⟩ : MethodName)) hown (mvT hZ (hw _ (List.mem_of_getElem? (i := 49) rfl))) (mvT hZ (hw _ (List.mem_of_getElem? (i := 50) rfl))) (notFace_of_selects (args := #[]) (mvT hZ (hw _ (List.mem_of_getElem? (i := 52) rfl)))) (mvT hZ (hw _ (List.mem_of_getElem? (i := 52) rfl))) (mvT hZ (hw _ (List.mem_of_getElem? (i := 51) rfl))) (by decide) (backOf (W := 0) (rm10 l Z a0 hw [] b47 r50 n50' f51 8 T51.heap n0 Z51 H51 gr50 rfl (by omega) hc50) hZ (hw _ (List.mem_of_getElem? (i := 53) rfl)) (hw _ (List.mem_of_getElem? (i := 2) rfl)) (by decide) (by decide)) q53a q53c (g := (mkF m 56 #[.val (.int p0), .val (.int p1), .val (.int p2), .val (.int p3), .val (.int p4), .val (.ref b47), .val (.int pp), .unset, .unset, .unset, .unset, .unset, .unset, .unset, .unset] [(.ref b47)])) rfl (by rw [hml]; rfl) (Steps.refl _) (argsL := []) (rest := []) (lenOf pd5 rfl) rfl (by show 2 * 0 + _ ≤ _; exact Nat.le_of_eq rfl) (hb hby at_56) (fun _ _ => ⟨rfl, e52, (by decide : 4 + 1 ≤ _), (by decide : 47 + 15 ≤ _)⟩)
  dsimp only [Pt.U, Pt.locs, Pt.cells, Pt.slots] at X53 l53 y53 z53 st53 hQ53
  subst l53 y53 z53
  obtain ⟨r53, g53, rfl, N53q, Z53, V53, hg53⟩ := hQ53
  have N53 := Fr.app N52 N53q
  refine Go.via (fun t_ k_ => st53.trans k_) ?_
  show Go p.tables e below _ (T53.setTop (mkF m 59 #[.val (.int p0), .val (.int p1), .val (.int p2), .val (.int p3), .val (.int p4), .val (.ref b47), .val (.int pp), .unset, .unset, .unset, .unset, .unset, .unset, .unset, .unset] [(.ref r53)]))
  refine Go.via (B := T53.setTop (mkF m 63 #[.val (.int p0), .val (.int p1), .val (.int p2), .val (.int p3), .val (.int p4), .val (.ref b47), .val (.int pp), .val (.ref r53), .unset, .unset, .unset, .unset, .unset, .unset, .unset] [(.ref r53)])) (fun t_ k_ => ?_) ?_
  · show Steps p.tables e below (T53.setTop (mkF m 59 #[.val (.int p0), .val (.int p1), .val (.int p2), .val (.int p3), .val (.int p4), .val (.ref b47), .val (.int pp), .unset, .unset, .unset, .unset, .unset, .unset, .unset, .unset] [(.ref r53)])) t_
    refine XS.astore X53.here hx rfl (hb hby at_59) rfl rfl (l' := #[.val (.int p0), .val (.int p1), .val (.int p2), .val (.int p3), .val (.int p4), .val (.ref b47), .val (.int pp), .val (.ref r53), .unset, .unset, .unset, .unset, .unset, .unset, .unset]) rfl ?_
    show Steps p.tables e below (T53.setTop (mkF m 61 #[.val (.int p0), .val (.int p1), .val (.int p2), .val (.int p3), .val (.int p4), .val (.ref b47), .val (.int pp), .val (.ref r53), .unset, .unset, .unset, .unset, .unset, .unset, .unset] [])) t_
    refine XS.aload X53.here hx rfl (hb hby at_61) rfl rfl ?_
    show Steps p.tables e below (T53.setTop (mkF m 63 #[.val (.int p0), .val (.int p1), .val (.int p2), .val (.int p3), .val (.int p4), .val (.ref b47), .val (.int pp), .val (.ref r53), .unset, .unset, .unset, .unset, .unset, .unset, .unset] [(.ref r53)])) t_
    exact k_
  refine Go.via (B := T53.setTop (mkF m 64 #[.val (.int p0), .val (.int p1), .val (.int p2), .val (.int p3), .val (.int p4), .val (.ref b47), .val (.int pp), .val (.ref r53), .unset, .unset, .unset, .unset, .unset, .unset, .unset] [(.int (8 : Int32))])) (fun t_ k_ => alen X53 hx hZ rfl V53 (g := (mkF m 63 #[.val (.int p0), .val (.int p1), .val (.int p2), .val (.int p3), .val (.int p4), .val (.ref b47), .val (.int pp), .val (.ref r53), .unset, .unset, .unset, .unset, .unset, .unset, .unset] [(.ref r53)])) rfl rfl (hb hby at_63) t_ k_) ?_
  refine Go.via (B := T53.setTop (mkF m 66 #[.val (.int p0), .val (.int p1), .val (.int p2), .val (.int p3), .val (.int p4), .val (.ref b47), .val (.int pp), .val (.ref r53), .unset, .unset, .unset, .unset, .unset, .unset, .unset] [(.int (8 : Int32)), (.int (8 : Int32))])) (fun t_ k_ => ?_) ?_
  · show Steps p.tables e below (T53.setTop (mkF m 64 #[.val (.int p0), .val (.int p1), .val (.int p2), .val (.int p3), .val (.int p4), .val (.ref b47), .val (.int pp), .val (.ref r53), .unset, .unset, .unset, .unset, .unset, .unset, .unset] [(.int (8 : Int32))])) t_
    refine XS.bipush X53.here hx rfl (hb hby at_64) ?_
    show Steps p.tables e below (T53.setTop (mkF m 66 #[.val (.int p0), .val (.int p1), .val (.int p2), .val (.int p3), .val (.int p4), .val (.ref b47), .val (.int pp), .val (.ref r53), .unset, .unset, .unset, .unset, .unset, .unset, .unset] [(.int (8 : Int32)), (.int (8 : Int32))])) t_
    exact k_
  refine Go.via (B := T53.setTop (mkF m 71 #[.val (.int p0), .val (.int p1), .val (.int p2), .val (.int p3), .val (.int p4), .val (.ref b47), .val (.int pp), .val (.ref r53), .unset, .unset, .unset, .unset, .unset, .unset, .unset] [])) (fun t_ k_ => XS.icmpYes X53.here hx rfl (pc0 := 66) (pc' := 71) rfl (hb hby at_66) rfl ((teq (rfl : (8 : Int32) = (8 : Int32))).1) (by decide) (by decide) k_) ?_
  refine Go.via (B := T53.setTop (mkF m 124 #[.val (.int p0), .val (.int p1), .val (.int p2), .val (.int p3), .val (.int p4), .val (.ref b47), .val (.int pp), .val (.ref r53), .val (.long (((p1.toInt64) <<< ((32 : Int32) &&& 0x3f).toInt64) ||| ((p2.toInt64) &&& (4294967295 : Int64)))), .second, .val (.int ((8 : Int32) * ((4 : Int32) - pp))), .val (.long ((4294967295 : Int64) <<< (((8 : Int32) * ((4 : Int32) - pp)) &&& 0x3f).toInt64)), .second, .val (.long (((((p1.toInt64) <<< ((32 : Int32) &&& 0x3f).toInt64) ||| ((p2.toInt64) &&& (4294967295 : Int64))) &&& (((4294967295 : Int64) <<< (((8 : Int32) * ((4 : Int32) - pp)) &&& 0x3f).toInt64) ^^^ (-1 : Int64))) ||| (((p4.toInt64) &&& (4294967295 : Int64)) <<< (((8 : Int32) * ((4 : Int32) - pp)) &&& 0x3f).toInt64))), .second] [])) (fun t_ k_ => ?_) ?_
  · show Steps p.tables e below (T53.setTop (mkF m 71 #[.val (.int p0), .val (.int p1), .val (.int p2), .val (.int p3), .val (.int p4), .val (.ref b47), .val (.int pp), .val (.ref r53), .unset, .unset, .unset, .unset, .unset, .unset, .unset] [])) t_
    refine XS.iloadN X53.here hx rfl (hb hby at_71) rfl ?_
    show Steps p.tables e below (T53.setTop (mkF m 72 #[.val (.int p0), .val (.int p1), .val (.int p2), .val (.int p3), .val (.int p4), .val (.ref b47), .val (.int pp), .val (.ref r53), .unset, .unset, .unset, .unset, .unset, .unset, .unset] [(.int p1)])) t_
    refine XS.i2l X53.here hx rfl (hb hby at_72) rfl ?_
    show Steps p.tables e below (T53.setTop (mkF m 73 #[.val (.int p0), .val (.int p1), .val (.int p2), .val (.int p3), .val (.int p4), .val (.ref b47), .val (.int pp), .val (.ref r53), .unset, .unset, .unset, .unset, .unset, .unset, .unset] [(.long (p1.toInt64))])) t_
    refine XS.bipush X53.here hx rfl (hb hby at_73) ?_
    show Steps p.tables e below (T53.setTop (mkF m 75 #[.val (.int p0), .val (.int p1), .val (.int p2), .val (.int p3), .val (.int p4), .val (.ref b47), .val (.int pp), .val (.ref r53), .unset, .unset, .unset, .unset, .unset, .unset, .unset] [(.int (32 : Int32)), (.long (p1.toInt64))])) t_
    refine XS.lshl X53.here hx rfl (hb hby at_75) rfl ?_
    show Steps p.tables e below (T53.setTop (mkF m 76 #[.val (.int p0), .val (.int p1), .val (.int p2), .val (.int p3), .val (.int p4), .val (.ref b47), .val (.int pp), .val (.ref r53), .unset, .unset, .unset, .unset, .unset, .unset, .unset] [(.long ((p1.toInt64) <<< ((32 : Int32) &&& 0x3f).toInt64))])) t_
    refine XS.iloadN X53.here hx rfl (hb hby at_76) rfl ?_
    show Steps p.tables e below (T53.setTop (mkF m 77 #[.val (.int p0), .val (.int p1), .val (.int p2), .val (.int p3), .val (.int p4), .val (.ref b47), .val (.int pp), .val (.ref r53), .unset, .unset, .unset, .unset, .unset, .unset, .unset] [(.int p2), (.long ((p1.toInt64) <<< ((32 : Int32) &&& 0x3f).toInt64))])) t_
    refine XS.i2l X53.here hx rfl (hb hby at_77) rfl ?_
    show Steps p.tables e below (T53.setTop (mkF m 78 #[.val (.int p0), .val (.int p1), .val (.int p2), .val (.int p3), .val (.int p4), .val (.ref b47), .val (.int pp), .val (.ref r53), .unset, .unset, .unset, .unset, .unset, .unset, .unset] [(.long (p2.toInt64)), (.long ((p1.toInt64) <<< ((32 : Int32) &&& 0x3f).toInt64))])) t_
    refine X53.ldc2Long hx hown (mvT hZ (hw _ (List.mem_of_getElem? (i := 54) rfl))) (g := (mkF m 78 #[.val (.int p0), .val (.int p1), .val (.int p2), .val (.int p3), .val (.int p4), .val (.ref b47), .val (.int pp), .val (.ref r53), .unset, .unset, .unset, .unset, .unset, .unset, .unset] [(.long (p2.toInt64)), (.long ((p1.toInt64) <<< ((32 : Int32) &&& 0x3f).toInt64))])) rfl (hb hby at_78) _ ?_
    show Steps p.tables e below (T53.setTop (mkF m 81 #[.val (.int p0), .val (.int p1), .val (.int p2), .val (.int p3), .val (.int p4), .val (.ref b47), .val (.int pp), .val (.ref r53), .unset, .unset, .unset, .unset, .unset, .unset, .unset] [(.long (4294967295 : Int64)), (.long (p2.toInt64)), (.long ((p1.toInt64) <<< ((32 : Int32) &&& 0x3f).toInt64))])) t_
    refine XS.land X53.here hx rfl (hb hby at_81) rfl ?_
    show Steps p.tables e below (T53.setTop (mkF m 82 #[.val (.int p0), .val (.int p1), .val (.int p2), .val (.int p3), .val (.int p4), .val (.ref b47), .val (.int pp), .val (.ref r53), .unset, .unset, .unset, .unset, .unset, .unset, .unset] [(.long ((p2.toInt64) &&& (4294967295 : Int64))), (.long ((p1.toInt64) <<< ((32 : Int32) &&& 0x3f).toInt64))])) t_
    refine XS.lor X53.here hx rfl (hb hby at_82) rfl ?_
    show Steps p.tables e below (T53.setTop (mkF m 83 #[.val (.int p0), .val (.int p1), .val (.int p2), .val (.int p3), .val (.int p4), .val (.ref b47), .val (.int pp), .val (.ref r53), .unset, .unset, .unset, .unset, .unset, .unset, .unset] [(.long (((p1.toInt64) <<< ((32 : Int32) &&& 0x3f).toInt64) ||| ((p2.toInt64) &&& (4294967295 : Int64))))])) t_
    refine XS.lstore X53.here hx rfl (hb hby at_83) rfl (l' := #[.val (.int p0), .val (.int p1), .val (.int p2), .val (.int p3), .val (.int p4), .val (.ref b47), .val (.int pp), .val (.ref r53), .val (.long (((p1.toInt64) <<< ((32 : Int32) &&& 0x3f).toInt64) ||| ((p2.toInt64) &&& (4294967295 : Int64)))), .second, .unset, .unset, .unset, .unset, .unset]) rfl ?_
    show Steps p.tables e below (T53.setTop (mkF m 85 #[.val (.int p0), .val (.int p1), .val (.int p2), .val (.int p3), .val (.int p4), .val (.ref b47), .val (.int pp), .val (.ref r53), .val (.long (((p1.toInt64) <<< ((32 : Int32) &&& 0x3f).toInt64) ||| ((p2.toInt64) &&& (4294967295 : Int64)))), .second, .unset, .unset, .unset, .unset, .unset] [])) t_
    refine XS.bipush X53.here hx rfl (hb hby at_85) ?_
    show Steps p.tables e below (T53.setTop (mkF m 87 #[.val (.int p0), .val (.int p1), .val (.int p2), .val (.int p3), .val (.int p4), .val (.ref b47), .val (.int pp), .val (.ref r53), .val (.long (((p1.toInt64) <<< ((32 : Int32) &&& 0x3f).toInt64) ||| ((p2.toInt64) &&& (4294967295 : Int64)))), .second, .unset, .unset, .unset, .unset, .unset] [(.int (8 : Int32))])) t_
    refine XS.iconst X53.here hx rfl (hb hby at_87) ?_
    show Steps p.tables e below (T53.setTop (mkF m 88 #[.val (.int p0), .val (.int p1), .val (.int p2), .val (.int p3), .val (.int p4), .val (.ref b47), .val (.int pp), .val (.ref r53), .val (.long (((p1.toInt64) <<< ((32 : Int32) &&& 0x3f).toInt64) ||| ((p2.toInt64) &&& (4294967295 : Int64)))), .second, .unset, .unset, .unset, .unset, .unset] [(.int (4 : Int32)), (.int (8 : Int32))])) t_
    refine XS.iload X53.here hx rfl (hb hby at_88) rfl ?_
    show Steps p.tables e below (T53.setTop (mkF m 90 #[.val (.int p0), .val (.int p1), .val (.int p2), .val (.int p3), .val (.int p4), .val (.ref b47), .val (.int pp), .val (.ref r53), .val (.long (((p1.toInt64) <<< ((32 : Int32) &&& 0x3f).toInt64) ||| ((p2.toInt64) &&& (4294967295 : Int64)))), .second, .unset, .unset, .unset, .unset, .unset] [(.int pp), (.int (4 : Int32)), (.int (8 : Int32))])) t_
    refine XS.isub X53.here hx rfl (hb hby at_90) rfl ?_
    show Steps p.tables e below (T53.setTop (mkF m 91 #[.val (.int p0), .val (.int p1), .val (.int p2), .val (.int p3), .val (.int p4), .val (.ref b47), .val (.int pp), .val (.ref r53), .val (.long (((p1.toInt64) <<< ((32 : Int32) &&& 0x3f).toInt64) ||| ((p2.toInt64) &&& (4294967295 : Int64)))), .second, .unset, .unset, .unset, .unset, .unset] [(.int ((4 : Int32) - pp)), (.int (8 : Int32))])) t_
    refine XS.imul X53.here hx rfl (hb hby at_91) rfl ?_
    show Steps p.tables e below (T53.setTop (mkF m 92 #[.val (.int p0), .val (.int p1), .val (.int p2), .val (.int p3), .val (.int p4), .val (.ref b47), .val (.int pp), .val (.ref r53), .val (.long (((p1.toInt64) <<< ((32 : Int32) &&& 0x3f).toInt64) ||| ((p2.toInt64) &&& (4294967295 : Int64)))), .second, .unset, .unset, .unset, .unset, .unset] [(.int ((8 : Int32) * ((4 : Int32) - pp)))])) t_
    refine XS.istore X53.here hx rfl (hb hby at_92) rfl (l' := #[.val (.int p0), .val (.int p1), .val (.int p2), .val (.int p3), .val (.int p4), .val (.ref b47), .val (.int pp), .val (.ref r53), .val (.long (((p1.toInt64) <<< ((32 : Int32) &&& 0x3f).toInt64) ||| ((p2.toInt64) &&& (4294967295 : Int64)))), .second, .val (.int ((8 : Int32) * ((4 : Int32) - pp))), .unset, .unset, .unset, .unset]) rfl ?_
    show Steps p.tables e below (T53.setTop (mkF m 94 #[.val (.int p0), .val (.int p1), .val (.int p2), .val (.int p3), .val (.int p4), .val (.ref b47), .val (.int pp), .val (.ref r53), .val (.long (((p1.toInt64) <<< ((32 : Int32) &&& 0x3f).toInt64) ||| ((p2.toInt64) &&& (4294967295 : Int64)))), .second, .val (.int ((8 : Int32) * ((4 : Int32) - pp))), .unset, .unset, .unset, .unset] [])) t_
    refine X53.ldc2Long hx hown (mvT hZ (hw _ (List.mem_of_getElem? (i := 54) rfl))) (g := (mkF m 94 #[.val (.int p0), .val (.int p1), .val (.int p2), .val (.int p3), .val (.int p4), .val (.ref b47), .val (.int pp), .val (.ref r53), .val (.long (((p1.toInt64) <<< ((32 : Int32) &&& 0x3f).toInt64) ||| ((p2.toInt64) &&& (4294967295 : Int64)))), .second, .val (.int ((8 : Int32) * ((4 : Int32) - pp))), .unset, .unset, .unset, .unset] [])) rfl (hb hby at_94) _ ?_
    show Steps p.tables e below (T53.setTop (mkF m 97 #[.val (.int p0), .val (.int p1), .val (.int p2), .val (.int p3), .val (.int p4), .val (.ref b47), .val (.int pp), .val (.ref r53), .val (.long (((p1.toInt64) <<< ((32 : Int32) &&& 0x3f).toInt64) ||| ((p2.toInt64) &&& (4294967295 : Int64)))), .second, .val (.int ((8 : Int32) * ((4 : Int32) - pp))), .unset, .unset, .unset, .unset] [(.long (4294967295 : Int64))])) t_
    refine XS.iload X53.here hx rfl (hb hby at_97) rfl ?_
    show Steps p.tables e below (T53.setTop (mkF m 99 #[.val (.int p0), .val (.int p1), .val (.int p2), .val (.int p3), .val (.int p4), .val (.ref b47), .val (.int pp), .val (.ref r53), .val (.long (((p1.toInt64) <<< ((32 : Int32) &&& 0x3f).toInt64) ||| ((p2.toInt64) &&& (4294967295 : Int64)))), .second, .val (.int ((8 : Int32) * ((4 : Int32) - pp))), .unset, .unset, .unset, .unset] [(.int ((8 : Int32) * ((4 : Int32) - pp))), (.long (4294967295 : Int64))])) t_
    refine XS.lshl X53.here hx rfl (hb hby at_99) rfl ?_
    show Steps p.tables e below (T53.setTop (mkF m 100 #[.val (.int p0), .val (.int p1), .val (.int p2), .val (.int p3), .val (.int p4), .val (.ref b47), .val (.int pp), .val (.ref r53), .val (.long (((p1.toInt64) <<< ((32 : Int32) &&& 0x3f).toInt64) ||| ((p2.toInt64) &&& (4294967295 : Int64)))), .second, .val (.int ((8 : Int32) * ((4 : Int32) - pp))), .unset, .unset, .unset, .unset] [(.long ((4294967295 : Int64) <<< (((8 : Int32) * ((4 : Int32) - pp)) &&& 0x3f).toInt64))])) t_
    refine XS.lstore X53.here hx rfl (hb hby at_100) rfl (l' := #[.val (.int p0), .val (.int p1), .val (.int p2), .val (.int p3), .val (.int p4), .val (.ref b47), .val (.int pp), .val (.ref r53), .val (.long (((p1.toInt64) <<< ((32 : Int32) &&& 0x3f).toInt64) ||| ((p2.toInt64) &&& (4294967295 : Int64)))), .second, .val (.int ((8 : Int32) * ((4 : Int32) - pp))), .val (.long ((4294967295 : Int64) <<< (((8 : Int32) * ((4 : Int32) - pp)) &&& 0x3f).toInt64)), .second, .unset, .unset]) rfl ?_
    show Steps p.tables e below (T53.setTop (mkF m 102 #[.val (.int p0), .val (.int p1), .val (.int p2), .val (.int p3), .val (.int p4), .val (.ref b47), .val (.int pp), .val (.ref r53), .val (.long (((p1.toInt64) <<< ((32 : Int32) &&& 0x3f).toInt64) ||| ((p2.toInt64) &&& (4294967295 : Int64)))), .second, .val (.int ((8 : Int32) * ((4 : Int32) - pp))), .val (.long ((4294967295 : Int64) <<< (((8 : Int32) * ((4 : Int32) - pp)) &&& 0x3f).toInt64)), .second, .unset, .unset] [])) t_
    refine XS.lload X53.here hx rfl (hb hby at_102) rfl ?_
    show Steps p.tables e below (T53.setTop (mkF m 104 #[.val (.int p0), .val (.int p1), .val (.int p2), .val (.int p3), .val (.int p4), .val (.ref b47), .val (.int pp), .val (.ref r53), .val (.long (((p1.toInt64) <<< ((32 : Int32) &&& 0x3f).toInt64) ||| ((p2.toInt64) &&& (4294967295 : Int64)))), .second, .val (.int ((8 : Int32) * ((4 : Int32) - pp))), .val (.long ((4294967295 : Int64) <<< (((8 : Int32) * ((4 : Int32) - pp)) &&& 0x3f).toInt64)), .second, .unset, .unset] [(.long (((p1.toInt64) <<< ((32 : Int32) &&& 0x3f).toInt64) ||| ((p2.toInt64) &&& (4294967295 : Int64))))])) t_
    refine XS.lload X53.here hx rfl (hb hby at_104) rfl ?_
    show Steps p.tables e below (T53.setTop (mkF m 106 #[.val (.int p0), .val (.int p1), .val (.int p2), .val (.int p3), .val (.int p4), .val (.ref b47), .val (.int pp), .val (.ref r53), .val (.long (((p1.toInt64) <<< ((32 : Int32) &&& 0x3f).toInt64) ||| ((p2.toInt64) &&& (4294967295 : Int64)))), .second, .val (.int ((8 : Int32) * ((4 : Int32) - pp))), .val (.long ((4294967295 : Int64) <<< (((8 : Int32) * ((4 : Int32) - pp)) &&& 0x3f).toInt64)), .second, .unset, .unset] [(.long ((4294967295 : Int64) <<< (((8 : Int32) * ((4 : Int32) - pp)) &&& 0x3f).toInt64)), (.long (((p1.toInt64) <<< ((32 : Int32) &&& 0x3f).toInt64) ||| ((p2.toInt64) &&& (4294967295 : Int64))))])) t_
    refine X53.ldc2Long hx hown (mvT hZ (hw _ (List.mem_of_getElem? (i := 55) rfl))) (g := (mkF m 106 #[.val (.int p0), .val (.int p1), .val (.int p2), .val (.int p3), .val (.int p4), .val (.ref b47), .val (.int pp), .val (.ref r53), .val (.long (((p1.toInt64) <<< ((32 : Int32) &&& 0x3f).toInt64) ||| ((p2.toInt64) &&& (4294967295 : Int64)))), .second, .val (.int ((8 : Int32) * ((4 : Int32) - pp))), .val (.long ((4294967295 : Int64) <<< (((8 : Int32) * ((4 : Int32) - pp)) &&& 0x3f).toInt64)), .second, .unset, .unset] [(.long ((4294967295 : Int64) <<< (((8 : Int32) * ((4 : Int32) - pp)) &&& 0x3f).toInt64)), (.long (((p1.toInt64) <<< ((32 : Int32) &&& 0x3f).toInt64) ||| ((p2.toInt64) &&& (4294967295 : Int64))))])) rfl (hb hby at_106) _ ?_
    show Steps p.tables e below (T53.setTop (mkF m 109 #[.val (.int p0), .val (.int p1), .val (.int p2), .val (.int p3), .val (.int p4), .val (.ref b47), .val (.int pp), .val (.ref r53), .val (.long (((p1.toInt64) <<< ((32 : Int32) &&& 0x3f).toInt64) ||| ((p2.toInt64) &&& (4294967295 : Int64)))), .second, .val (.int ((8 : Int32) * ((4 : Int32) - pp))), .val (.long ((4294967295 : Int64) <<< (((8 : Int32) * ((4 : Int32) - pp)) &&& 0x3f).toInt64)), .second, .unset, .unset] [(.long (-1 : Int64)), (.long ((4294967295 : Int64) <<< (((8 : Int32) * ((4 : Int32) - pp)) &&& 0x3f).toInt64)), (.long (((p1.toInt64) <<< ((32 : Int32) &&& 0x3f).toInt64) ||| ((p2.toInt64) &&& (4294967295 : Int64))))])) t_
    refine XS.lxor X53.here hx rfl (hb hby at_109) rfl ?_
    show Steps p.tables e below (T53.setTop (mkF m 110 #[.val (.int p0), .val (.int p1), .val (.int p2), .val (.int p3), .val (.int p4), .val (.ref b47), .val (.int pp), .val (.ref r53), .val (.long (((p1.toInt64) <<< ((32 : Int32) &&& 0x3f).toInt64) ||| ((p2.toInt64) &&& (4294967295 : Int64)))), .second, .val (.int ((8 : Int32) * ((4 : Int32) - pp))), .val (.long ((4294967295 : Int64) <<< (((8 : Int32) * ((4 : Int32) - pp)) &&& 0x3f).toInt64)), .second, .unset, .unset] [(.long (((4294967295 : Int64) <<< (((8 : Int32) * ((4 : Int32) - pp)) &&& 0x3f).toInt64) ^^^ (-1 : Int64))), (.long (((p1.toInt64) <<< ((32 : Int32) &&& 0x3f).toInt64) ||| ((p2.toInt64) &&& (4294967295 : Int64))))])) t_
    refine XS.land X53.here hx rfl (hb hby at_110) rfl ?_
    show Steps p.tables e below (T53.setTop (mkF m 111 #[.val (.int p0), .val (.int p1), .val (.int p2), .val (.int p3), .val (.int p4), .val (.ref b47), .val (.int pp), .val (.ref r53), .val (.long (((p1.toInt64) <<< ((32 : Int32) &&& 0x3f).toInt64) ||| ((p2.toInt64) &&& (4294967295 : Int64)))), .second, .val (.int ((8 : Int32) * ((4 : Int32) - pp))), .val (.long ((4294967295 : Int64) <<< (((8 : Int32) * ((4 : Int32) - pp)) &&& 0x3f).toInt64)), .second, .unset, .unset] [(.long ((((p1.toInt64) <<< ((32 : Int32) &&& 0x3f).toInt64) ||| ((p2.toInt64) &&& (4294967295 : Int64))) &&& (((4294967295 : Int64) <<< (((8 : Int32) * ((4 : Int32) - pp)) &&& 0x3f).toInt64) ^^^ (-1 : Int64))))])) t_
    refine XS.iload X53.here hx rfl (hb hby at_111) rfl ?_
    show Steps p.tables e below (T53.setTop (mkF m 113 #[.val (.int p0), .val (.int p1), .val (.int p2), .val (.int p3), .val (.int p4), .val (.ref b47), .val (.int pp), .val (.ref r53), .val (.long (((p1.toInt64) <<< ((32 : Int32) &&& 0x3f).toInt64) ||| ((p2.toInt64) &&& (4294967295 : Int64)))), .second, .val (.int ((8 : Int32) * ((4 : Int32) - pp))), .val (.long ((4294967295 : Int64) <<< (((8 : Int32) * ((4 : Int32) - pp)) &&& 0x3f).toInt64)), .second, .unset, .unset] [(.int p4), (.long ((((p1.toInt64) <<< ((32 : Int32) &&& 0x3f).toInt64) ||| ((p2.toInt64) &&& (4294967295 : Int64))) &&& (((4294967295 : Int64) <<< (((8 : Int32) * ((4 : Int32) - pp)) &&& 0x3f).toInt64) ^^^ (-1 : Int64))))])) t_
    refine XS.i2l X53.here hx rfl (hb hby at_113) rfl ?_
    show Steps p.tables e below (T53.setTop (mkF m 114 #[.val (.int p0), .val (.int p1), .val (.int p2), .val (.int p3), .val (.int p4), .val (.ref b47), .val (.int pp), .val (.ref r53), .val (.long (((p1.toInt64) <<< ((32 : Int32) &&& 0x3f).toInt64) ||| ((p2.toInt64) &&& (4294967295 : Int64)))), .second, .val (.int ((8 : Int32) * ((4 : Int32) - pp))), .val (.long ((4294967295 : Int64) <<< (((8 : Int32) * ((4 : Int32) - pp)) &&& 0x3f).toInt64)), .second, .unset, .unset] [(.long (p4.toInt64)), (.long ((((p1.toInt64) <<< ((32 : Int32) &&& 0x3f).toInt64) ||| ((p2.toInt64) &&& (4294967295 : Int64))) &&& (((4294967295 : Int64) <<< (((8 : Int32) * ((4 : Int32) - pp)) &&& 0x3f).toInt64) ^^^ (-1 : Int64))))])) t_
    refine X53.ldc2Long hx hown (mvT hZ (hw _ (List.mem_of_getElem? (i := 54) rfl))) (g := (mkF m 114 #[.val (.int p0), .val (.int p1), .val (.int p2), .val (.int p3), .val (.int p4), .val (.ref b47), .val (.int pp), .val (.ref r53), .val (.long (((p1.toInt64) <<< ((32 : Int32) &&& 0x3f).toInt64) ||| ((p2.toInt64) &&& (4294967295 : Int64)))), .second, .val (.int ((8 : Int32) * ((4 : Int32) - pp))), .val (.long ((4294967295 : Int64) <<< (((8 : Int32) * ((4 : Int32) - pp)) &&& 0x3f).toInt64)), .second, .unset, .unset] [(.long (p4.toInt64)), (.long ((((p1.toInt64) <<< ((32 : Int32) &&& 0x3f).toInt64) ||| ((p2.toInt64) &&& (4294967295 : Int64))) &&& (((4294967295 : Int64) <<< (((8 : Int32) * ((4 : Int32) - pp)) &&& 0x3f).toInt64) ^^^ (-1 : Int64))))])) rfl (hb hby at_114) _ ?_
    show Steps p.tables e below (T53.setTop (mkF m 117 #[.val (.int p0), .val (.int p1), .val (.int p2), .val (.int p3), .val (.int p4), .val (.ref b47), .val (.int pp), .val (.ref r53), .val (.long (((p1.toInt64) <<< ((32 : Int32) &&& 0x3f).toInt64) ||| ((p2.toInt64) &&& (4294967295 : Int64)))), .second, .val (.int ((8 : Int32) * ((4 : Int32) - pp))), .val (.long ((4294967295 : Int64) <<< (((8 : Int32) * ((4 : Int32) - pp)) &&& 0x3f).toInt64)), .second, .unset, .unset] [(.long (4294967295 : Int64)), (.long (p4.toInt64)), (.long ((((p1.toInt64) <<< ((32 : Int32) &&& 0x3f).toInt64) ||| ((p2.toInt64) &&& (4294967295 : Int64))) &&& (((4294967295 : Int64) <<< (((8 : Int32) * ((4 : Int32) - pp)) &&& 0x3f).toInt64) ^^^ (-1 : Int64))))])) t_
    refine XS.land X53.here hx rfl (hb hby at_117) rfl ?_
    show Steps p.tables e below (T53.setTop (mkF m 118 #[.val (.int p0), .val (.int p1), .val (.int p2), .val (.int p3), .val (.int p4), .val (.ref b47), .val (.int pp), .val (.ref r53), .val (.long (((p1.toInt64) <<< ((32 : Int32) &&& 0x3f).toInt64) ||| ((p2.toInt64) &&& (4294967295 : Int64)))), .second, .val (.int ((8 : Int32) * ((4 : Int32) - pp))), .val (.long ((4294967295 : Int64) <<< (((8 : Int32) * ((4 : Int32) - pp)) &&& 0x3f).toInt64)), .second, .unset, .unset] [(.long ((p4.toInt64) &&& (4294967295 : Int64))), (.long ((((p1.toInt64) <<< ((32 : Int32) &&& 0x3f).toInt64) ||| ((p2.toInt64) &&& (4294967295 : Int64))) &&& (((4294967295 : Int64) <<< (((8 : Int32) * ((4 : Int32) - pp)) &&& 0x3f).toInt64) ^^^ (-1 : Int64))))])) t_
    refine XS.iload X53.here hx rfl (hb hby at_118) rfl ?_
    show Steps p.tables e below (T53.setTop (mkF m 120 #[.val (.int p0), .val (.int p1), .val (.int p2), .val (.int p3), .val (.int p4), .val (.ref b47), .val (.int pp), .val (.ref r53), .val (.long (((p1.toInt64) <<< ((32 : Int32) &&& 0x3f).toInt64) ||| ((p2.toInt64) &&& (4294967295 : Int64)))), .second, .val (.int ((8 : Int32) * ((4 : Int32) - pp))), .val (.long ((4294967295 : Int64) <<< (((8 : Int32) * ((4 : Int32) - pp)) &&& 0x3f).toInt64)), .second, .unset, .unset] [(.int ((8 : Int32) * ((4 : Int32) - pp))), (.long ((p4.toInt64) &&& (4294967295 : Int64))), (.long ((((p1.toInt64) <<< ((32 : Int32) &&& 0x3f).toInt64) ||| ((p2.toInt64) &&& (4294967295 : Int64))) &&& (((4294967295 : Int64) <<< (((8 : Int32) * ((4 : Int32) - pp)) &&& 0x3f).toInt64) ^^^ (-1 : Int64))))])) t_
    refine XS.lshl X53.here hx rfl (hb hby at_120) rfl ?_
    show Steps p.tables e below (T53.setTop (mkF m 121 #[.val (.int p0), .val (.int p1), .val (.int p2), .val (.int p3), .val (.int p4), .val (.ref b47), .val (.int pp), .val (.ref r53), .val (.long (((p1.toInt64) <<< ((32 : Int32) &&& 0x3f).toInt64) ||| ((p2.toInt64) &&& (4294967295 : Int64)))), .second, .val (.int ((8 : Int32) * ((4 : Int32) - pp))), .val (.long ((4294967295 : Int64) <<< (((8 : Int32) * ((4 : Int32) - pp)) &&& 0x3f).toInt64)), .second, .unset, .unset] [(.long (((p4.toInt64) &&& (4294967295 : Int64)) <<< (((8 : Int32) * ((4 : Int32) - pp)) &&& 0x3f).toInt64)), (.long ((((p1.toInt64) <<< ((32 : Int32) &&& 0x3f).toInt64) ||| ((p2.toInt64) &&& (4294967295 : Int64))) &&& (((4294967295 : Int64) <<< (((8 : Int32) * ((4 : Int32) - pp)) &&& 0x3f).toInt64) ^^^ (-1 : Int64))))])) t_
    refine XS.lor X53.here hx rfl (hb hby at_121) rfl ?_
    show Steps p.tables e below (T53.setTop (mkF m 122 #[.val (.int p0), .val (.int p1), .val (.int p2), .val (.int p3), .val (.int p4), .val (.ref b47), .val (.int pp), .val (.ref r53), .val (.long (((p1.toInt64) <<< ((32 : Int32) &&& 0x3f).toInt64) ||| ((p2.toInt64) &&& (4294967295 : Int64)))), .second, .val (.int ((8 : Int32) * ((4 : Int32) - pp))), .val (.long ((4294967295 : Int64) <<< (((8 : Int32) * ((4 : Int32) - pp)) &&& 0x3f).toInt64)), .second, .unset, .unset] [(.long (((((p1.toInt64) <<< ((32 : Int32) &&& 0x3f).toInt64) ||| ((p2.toInt64) &&& (4294967295 : Int64))) &&& (((4294967295 : Int64) <<< (((8 : Int32) * ((4 : Int32) - pp)) &&& 0x3f).toInt64) ^^^ (-1 : Int64))) ||| (((p4.toInt64) &&& (4294967295 : Int64)) <<< (((8 : Int32) * ((4 : Int32) - pp)) &&& 0x3f).toInt64)))])) t_
    refine XS.lstore X53.here hx rfl (hb hby at_122) rfl (l' := #[.val (.int p0), .val (.int p1), .val (.int p2), .val (.int p3), .val (.int p4), .val (.ref b47), .val (.int pp), .val (.ref r53), .val (.long (((p1.toInt64) <<< ((32 : Int32) &&& 0x3f).toInt64) ||| ((p2.toInt64) &&& (4294967295 : Int64)))), .second, .val (.int ((8 : Int32) * ((4 : Int32) - pp))), .val (.long ((4294967295 : Int64) <<< (((8 : Int32) * ((4 : Int32) - pp)) &&& 0x3f).toInt64)), .second, .val (.long (((((p1.toInt64) <<< ((32 : Int32) &&& 0x3f).toInt64) ||| ((p2.toInt64) &&& (4294967295 : Int64))) &&& (((4294967295 : Int64) <<< (((8 : Int32) * ((4 : Int32) - pp)) &&& 0x3f).toInt64) ^^^ (-1 : Int64))) ||| (((p4.toInt64) &&& (4294967295 : Int64)) <<< (((8 : Int32) * ((4 : Int32) - pp)) &&& 0x3f).toInt64))), .second]) rfl ?_
    show Steps p.tables e below (T53.setTop (mkF m 124 #[.val (.int p0), .val (.int p1), .val (.int p2), .val (.int p3), .val (.int p4), .val (.ref b47), .val (.int pp), .val (.ref r53), .val (.long (((p1.toInt64) <<< ((32 : Int32) &&& 0x3f).toInt64) ||| ((p2.toInt64) &&& (4294967295 : Int64)))), .second, .val (.int ((8 : Int32) * ((4 : Int32) - pp))), .val (.long ((4294967295 : Int64) <<< (((8 : Int32) * ((4 : Int32) - pp)) &&& 0x3f).toInt64)), .second, .val (.long (((((p1.toInt64) <<< ((32 : Int32) &&& 0x3f).toInt64) ||| ((p2.toInt64) &&& (4294967295 : Int64))) &&& (((4294967295 : Int64) <<< (((8 : Int32) * ((4 : Int32) - pp)) &&& 0x3f).toInt64) ^^^ (-1 : Int64))) ||| (((p4.toInt64) &&& (4294967295 : Int64)) <<< (((8 : Int32) * ((4 : Int32) - pp)) &&& 0x3f).toInt64))), .second] [])) t_
    exact k_
  show Go p.tables e below _ (T53.setTop (mkF m 124 #[.val (.int p0), .val (.int p1), .val (.int p2), .val (.int p3), .val (.int p4), .val (.ref b47), .val (.int pp), .val (.ref r53), .val (.long (((p1.toInt64) <<< ((32 : Int32) &&& 0x3f).toInt64) ||| ((p2.toInt64) &&& (4294967295 : Int64)))), .second, .val (.int ((8 : Int32) * ((4 : Int32) - pp))), .val (.long ((4294967295 : Int64) <<< (((8 : Int32) * ((4 : Int32) - pp)) &&& 0x3f).toInt64)), .second, .val (.long (EXPV p1 p2 p4 pp)), .second] []))
  refine Go.via (B := T53.setTop (mkF m 126 #[.val (.int p0), .val (.int p1), .val (.int p2), .val (.int p3), .val (.int p4), .val (.ref b47), .val (.int pp), .val (.ref r53), .val (.long (((p1.toInt64) <<< ((32 : Int32) &&& 0x3f).toInt64) ||| ((p2.toInt64) &&& (4294967295 : Int64)))), .second, .val (.int ((8 : Int32) * ((4 : Int32) - pp))), .val (.long ((4294967295 : Int64) <<< (((8 : Int32) * ((4 : Int32) - pp)) &&& 0x3f).toInt64)), .second, .val (.long (EXPV p1 p2 p4 pp)), .second] [(.ref r53)])) (fun t_ k_ => ?_) ?_
  · show Steps p.tables e below (T53.setTop (mkF m 124 #[.val (.int p0), .val (.int p1), .val (.int p2), .val (.int p3), .val (.int p4), .val (.ref b47), .val (.int pp), .val (.ref r53), .val (.long (((p1.toInt64) <<< ((32 : Int32) &&& 0x3f).toInt64) ||| ((p2.toInt64) &&& (4294967295 : Int64)))), .second, .val (.int ((8 : Int32) * ((4 : Int32) - pp))), .val (.long ((4294967295 : Int64) <<< (((8 : Int32) * ((4 : Int32) - pp)) &&& 0x3f).toInt64)), .second, .val (.long (EXPV p1 p2 p4 pp)), .second] [])) t_
    refine XS.aload X53.here hx rfl (hb hby at_124) rfl rfl ?_
    show Steps p.tables e below (T53.setTop (mkF m 126 #[.val (.int p0), .val (.int p1), .val (.int p2), .val (.int p3), .val (.int p4), .val (.ref b47), .val (.int pp), .val (.ref r53), .val (.long (((p1.toInt64) <<< ((32 : Int32) &&& 0x3f).toInt64) ||| ((p2.toInt64) &&& (4294967295 : Int64)))), .second, .val (.int ((8 : Int32) * ((4 : Int32) - pp))), .val (.long ((4294967295 : Int64) <<< (((8 : Int32) * ((4 : Int32) - pp)) &&& 0x3f).toInt64)), .second, .val (.long (EXPV p1 p2 p4 pp)), .second] [(.ref r53)])) t_
    exact k_
  obtain ⟨_, _, ⟨T54, L54, k54, n54⟩, -, X54, ⟨Lc54, hQ54, l54, y54, z54⟩, st54⟩ := Jvm.LawKit.callS X53 hx (y := (⟨"com/example/bytewright/bytewright/classfile/ByteWriterU4AtPinLaw", "decode", "([B)J"⟩ : MethodName)) hown (mvT hZ (hw _ (List.mem_of_getElem? (i := 56) rfl))) (mvT hZ (hw _ (List.mem_of_getElem? (i := 57) rfl))) (mvT hZ (hw _ (List.mem_of_getElem? (i := 58) rfl))) (mvT hZ (hw _ (List.mem_of_getElem? (i := 59) rfl))) (by decide) (backOf (W := 0) (rm11 l Z a0 hw [] r53 g53 T53.heap n0 Z53 V53) hZ (hw _ (List.mem_of_getElem? (i := 59) rfl)) (hw _ (List.mem_of_getElem? (i := 58) rfl)) (by decide) (by decide)) (g := (mkF m 126 #[.val (.int p0), .val (.int p1), .val (.int p2), .val (.int p3), .val (.int p4), .val (.ref b47), .val (.int pp), .val (.ref r53), .val (.long (((p1.toInt64) <<< ((32 : Int32) &&& 0x3f).toInt64) ||| ((p2.toInt64) &&& (4294967295 : Int64)))), .second, .val (.int ((8 : Int32) * ((4 : Int32) - pp))), .val (.long ((4294967295 : Int64) <<< (((8 : Int32) * ((4 : Int32) - pp)) &&& 0x3f).toInt64)), .second, .val (.long (EXPV p1 p2 p4 pp)), .second] [(.ref r53)])) rfl (by rw [hml]; rfl) (argsL := [(.ref r53)]) (rest := []) (lenOf pd6 rfl) rfl (by show 2 * 0 + _ ≤ _; exact Nat.le_of_eq rfl) (hb hby at_126) (fun _ _ => ⟨rfl, rfl, (by decide : 5 + 0 ≤ _), (by decide : 62 + 0 ≤ _)⟩)
  dsimp only [Pt.U, Pt.locs, Pt.cells, Pt.slots] at X54 l54 y54 z54 st54 hQ54
  subst l54 y54 z54
  obtain ⟨rfl, N54q, e54⟩ := hQ54
  have N54 := Fr.app N53 N54q
  refine Go.via st54 ?_
  show Go p.tables e below _ (T54.setTop (mkF m 129 #[.val (.int p0), .val (.int p1), .val (.int p2), .val (.int p3), .val (.int p4), .val (.ref b47), .val (.int pp), .val (.ref r53), .val (.long (((p1.toInt64) <<< ((32 : Int32) &&& 0x3f).toInt64) ||| ((p2.toInt64) &&& (4294967295 : Int64)))), .second, .val (.int ((8 : Int32) * ((4 : Int32) - pp))), .val (.long ((4294967295 : Int64) <<< (((8 : Int32) * ((4 : Int32) - pp)) &&& 0x3f).toInt64)), .second, .val (.long (EXPV p1 p2 p4 pp)), .second] [(.long (DEC g53))]))
  refine Go.via (B := T54.setTop (mkF m 132 #[.val (.int p0), .val (.int p1), .val (.int p2), .val (.int p3), .val (.int p4), .val (.ref b47), .val (.int pp), .val (.ref r53), .val (.long (((p1.toInt64) <<< ((32 : Int32) &&& 0x3f).toInt64) ||| ((p2.toInt64) &&& (4294967295 : Int64)))), .second, .val (.int ((8 : Int32) * ((4 : Int32) - pp))), .val (.long ((4294967295 : Int64) <<< (((8 : Int32) * ((4 : Int32) - pp)) &&& 0x3f).toInt64)), .second, .val (.long (EXPV p1 p2 p4 pp)), .second] [(.int (lcmpW (DEC g53) (EXPV p1 p2 p4 pp)))])) (fun t_ k_ => ?_) ?_
  · show Steps p.tables e below (T54.setTop (mkF m 129 #[.val (.int p0), .val (.int p1), .val (.int p2), .val (.int p3), .val (.int p4), .val (.ref b47), .val (.int pp), .val (.ref r53), .val (.long (((p1.toInt64) <<< ((32 : Int32) &&& 0x3f).toInt64) ||| ((p2.toInt64) &&& (4294967295 : Int64)))), .second, .val (.int ((8 : Int32) * ((4 : Int32) - pp))), .val (.long ((4294967295 : Int64) <<< (((8 : Int32) * ((4 : Int32) - pp)) &&& 0x3f).toInt64)), .second, .val (.long (EXPV p1 p2 p4 pp)), .second] [(.long (DEC g53))])) t_
    refine XS.lload X54.here hx rfl (hb hby at_129) rfl ?_
    show Steps p.tables e below (T54.setTop (mkF m 131 #[.val (.int p0), .val (.int p1), .val (.int p2), .val (.int p3), .val (.int p4), .val (.ref b47), .val (.int pp), .val (.ref r53), .val (.long (((p1.toInt64) <<< ((32 : Int32) &&& 0x3f).toInt64) ||| ((p2.toInt64) &&& (4294967295 : Int64)))), .second, .val (.int ((8 : Int32) * ((4 : Int32) - pp))), .val (.long ((4294967295 : Int64) <<< (((8 : Int32) * ((4 : Int32) - pp)) &&& 0x3f).toInt64)), .second, .val (.long (EXPV p1 p2 p4 pp)), .second] [(.long (EXPV p1 p2 p4 pp)), (.long (DEC g53))])) t_
    refine XS.lcmp X54.here hx rfl (hb hby at_131) rfl ?_
    show Steps p.tables e below (T54.setTop (mkF m 132 #[.val (.int p0), .val (.int p1), .val (.int p2), .val (.int p3), .val (.int p4), .val (.ref b47), .val (.int pp), .val (.ref r53), .val (.long (((p1.toInt64) <<< ((32 : Int32) &&& 0x3f).toInt64) ||| ((p2.toInt64) &&& (4294967295 : Int64)))), .second, .val (.int ((8 : Int32) * ((4 : Int32) - pp))), .val (.long ((4294967295 : Int64) <<< (((8 : Int32) * ((4 : Int32) - pp)) &&& 0x3f).toInt64)), .second, .val (.long (EXPV p1 p2 p4 pp)), .second] [(.int (lcmpW (DEC g53) (EXPV p1 p2 p4 pp)))])) t_
    exact k_
  have hfin : DEC g53 = EXPV p1 p2 p4 pp := own_law p1 p2 p4 pp hpp f50 g53 (fun i hi => by rw [hg53 i hi, hf51 i]) (by rw [hd50 0 (by decide)]; exact u490) (by rw [hd50 1 (by decide)]; exact u491) (by rw [hd50 2 (by decide)]; exact u492) (by rw [hd50 3 (by decide)]; exact u493) u500 u501 u502 u503
  refine Go.via (B := T54.setTop (mkF m 135 #[.val (.int p0), .val (.int p1), .val (.int p2), .val (.int p3), .val (.int p4), .val (.ref b47), .val (.int pp), .val (.ref r53), .val (.long (((p1.toInt64) <<< ((32 : Int32) &&& 0x3f).toInt64) ||| ((p2.toInt64) &&& (4294967295 : Int64)))), .second, .val (.int ((8 : Int32) * ((4 : Int32) - pp))), .val (.long ((4294967295 : Int64) <<< (((8 : Int32) * ((4 : Int32) - pp)) &&& 0x3f).toInt64)), .second, .val (.long (EXPV p1 p2 p4 pp)), .second] [])) (fun t_ k_ => XS.ifNo X54.here hx rfl (hb hby at_132) rfl (((if0 _ _).trans (teq ((lw_eq _ _).mpr hfin)).2)) k_) ?_
  refine Go.via (B := T54.setTop (mkF m 140 #[.val (.int p0), .val (.int p1), .val (.int p2), .val (.int p3), .val (.int p4), .val (.ref b47), .val (.int pp), .val (.ref r53), .val (.long (((p1.toInt64) <<< ((32 : Int32) &&& 0x3f).toInt64) ||| ((p2.toInt64) &&& (4294967295 : Int64)))), .second, .val (.int ((8 : Int32) * ((4 : Int32) - pp))), .val (.long ((4294967295 : Int64) <<< (((8 : Int32) * ((4 : Int32) - pp)) &&& 0x3f).toInt64)), .second, .val (.long (EXPV p1 p2 p4 pp)), .second] [(.int (1 : Int32))])) (fun t_ k_ => ?_) ?_
  · show Steps p.tables e below (T54.setTop (mkF m 135 #[.val (.int p0), .val (.int p1), .val (.int p2), .val (.int p3), .val (.int p4), .val (.ref b47), .val (.int pp), .val (.ref r53), .val (.long (((p1.toInt64) <<< ((32 : Int32) &&& 0x3f).toInt64) ||| ((p2.toInt64) &&& (4294967295 : Int64)))), .second, .val (.int ((8 : Int32) * ((4 : Int32) - pp))), .val (.long ((4294967295 : Int64) <<< (((8 : Int32) * ((4 : Int32) - pp)) &&& 0x3f).toInt64)), .second, .val (.long (EXPV p1 p2 p4 pp)), .second] [])) t_
    refine XS.iconst X54.here hx rfl (hb hby at_135) ?_
    show Steps p.tables e below (T54.setTop (mkF m 136 #[.val (.int p0), .val (.int p1), .val (.int p2), .val (.int p3), .val (.int p4), .val (.ref b47), .val (.int pp), .val (.ref r53), .val (.long (((p1.toInt64) <<< ((32 : Int32) &&& 0x3f).toInt64) ||| ((p2.toInt64) &&& (4294967295 : Int64)))), .second, .val (.int ((8 : Int32) * ((4 : Int32) - pp))), .val (.long ((4294967295 : Int64) <<< (((8 : Int32) * ((4 : Int32) - pp)) &&& 0x3f).toInt64)), .second, .val (.long (EXPV p1 p2 p4 pp)), .second] [(.int (1 : Int32))])) t_
    refine XS.goto X54.here hx rfl (pc0 := 136) (pc' := 140) rfl (hb hby at_136) (by decide) (by decide) ?_
    show Steps p.tables e below (T54.setTop (mkF m 140 #[.val (.int p0), .val (.int p1), .val (.int p2), .val (.int p3), .val (.int p4), .val (.ref b47), .val (.int pp), .val (.ref r53), .val (.long (((p1.toInt64) <<< ((32 : Int32) &&& 0x3f).toInt64) ||| ((p2.toInt64) &&& (4294967295 : Int64)))), .second, .val (.int ((8 : Int32) * ((4 : Int32) - pp))), .val (.long ((4294967295 : Int64) <<< (((8 : Int32) * ((4 : Int32) - pp)) &&& 0x3f).toInt64)), .second, .val (.long (EXPV p1 p2 p4 pp)), .second] [(.int (1 : Int32))])) t_
    exact k_
  exact Go.leave X54 hlk (v := (some (.int (1 : Int32)))) (fun h => by rw [hrt] at h; cases h) (fun fs hr => retN X54 hx (t := .boolean) hrt (by simp) (hb hby at_140) hr) (by decide) (by decide) (⟨rfl, N54⟩)
set_option maxRecDepth 65536 in
set_option maxHeartbeats 40000000 in
theorem comes_1 {Post : Tables → Env → Array Value → State → Outcome → State → Prop} (hpost : ∀ tb e args s v u, (limb_1_1.after args s (.returned v) u = true ∧ limb_1_2.after args s (.returned v) u = true ∧ True) → FrameEnd s (.returned v) u (Jvm.fieldLocs frame_1_writes args s ++ Jvm.arrayLocs frame_1_arrays args s ++ Jvm.staticLocs frame_1_statics s) 24 128 → Post tb e args s (.returned v) u) :
    ArmFor flags0 classFile x code maxLocals ret World_1 tables_1 room_1 Calls_1 rest_1 Pre_1 Post := by
  intro l hfl _ _ p e ha hc hk s m args below hf hA hF happ hP
  obtain ⟨hcalls, hrest, hpre⟩ := hP
  obtain ⟨-, -, -, hnamed, -, -, -, hat⟩ := (Spec.applies_iff hf).mp happ
  obtain ⟨hg, hn⟩ := and_e (Cond.before_iff.mp (show (Jvm.Cond.and given_1 narrow_1).before args s = true from hpre))
  obtain ⟨hcount, hg0⟩ := and_e hg
  obtain ⟨ha0, hg1⟩ := and_e hg0
  obtain ⟨ha1, hg2⟩ := and_e hg1
  obtain ⟨ha2, hg3⟩ := and_e hg2
  obtain ⟨ha3, hg4⟩ := and_e hg3
  have ha4 := hg4
  obtain ⟨w0, w1, w2, w3, w4, rfl⟩ : ∃ w0 w1 w2 w3 w4 : Value, args = #[w0, w1, w2, w3, w4] := by
    have hs : args.size = 5 := by simpa [Cond.value, given_1] using hcount
    obtain ⟨L⟩ := args
    match L, hs with
    | [w0, w1, w2, w3, w4], _ => exact ⟨w0, w1, w2, w3, w4, rfl⟩
  have hw := fun d (hd : d ∈ tables_1) => atoms_spec (ws := Jvm.Cond.code x code maxLocals ret :: tables_1) hat d (List.mem_cons_of_mem _ hd)
  have hfit : Fit s := fun {y c} hc i hi => by
    obtain ⟨ha, rfl⟩ := Array.getElem?_eq_some_iff.mp hc
    have q := List.all_eq_true.mp ((Array.all_eq_true_iff_forall_mem.mp hF) _ (Array.getElem_mem ha)) i (List.mem_range.mpr hi)
    simpa [Array.getElem?_eq_getElem hi] using q
  obtain ⟨i0, ei0⟩ := is_v ha0
  obtain rfl : w0 = (.int i0) := Option.some.inj ei0
  obtain ⟨i1, ei1⟩ := is_v ha1
  obtain rfl : w1 = (.int i1) := Option.some.inj ei1
  obtain ⟨i2, ei2⟩ := is_v ha2
  obtain rfl : w2 = (.int i2) := Option.some.inj ei2
  obtain ⟨i3, ei3⟩ := is_v ha3
  obtain rfl : w3 = (.int i3) := Option.some.inj ei3
  obtain ⟨i4, ei4⟩ := is_v ha4
  obtain rfl : w4 = (.int i4) := Option.some.inj ei4
  obtain ⟨n, o, h1, h2, h3, _, L, rfl, ⟨rfl, N⟩, hq⟩ := rm0 l s _ hw tables_1 i0 i1 i2 i3 i4  s.heap s.heap.size (Nat.le_refl _)  p e ha hc hk s m _ below hf ((Spec.applies_iff_loose hf).mp happ).1 ⟨rfl, State.Warmed39.refl s, rfl⟩ trivial
  refine ⟨n, _, h1, h2, h3, hpost _ _ _ _ _ _ ⟨Cond.after_iff.mpr rfl, Cond.after_iff.mpr (eq_i res_at (Term.int_eval (1)) rfl), trivial⟩ ⟨hq.1, hq.2.1, (hq.2.2.sift fun y hy => Or.inr (N y hy)).mono (by decide) (by decide)⟩⟩
theorem main_1_1 : Claimed_1_1 := comes_1 fun _ _ _ _ _ _ h hF => ⟨h.1, hF⟩
theorem main_1_2 : Claimed_1_2 := comes_1 fun _ _ _ _ _ _ h hF => ⟨h.2.1, hF⟩
end Jvm.Pilot.@@N@@
namespace Jvm.Pilot.@@N@@
open Jvm Jvm.ClassFile Sem Op Lib Jvm.Free Jvm.Stand Jvm.Pilot.@@N@@.Jvm.D
/-! MADE BY PROGRAM (witnessworld.py) out of the Statement's table words and the real class files: 12 classes; the members and pool entries that the words name. The judged class is class 1, her method 2. -/
namespace start1
open Jvm.ClassFile
def u (s : String) : CpInfo := .utf8 (stringToUtf16 s)
/-- a pool by its gaps: so many unusable entries, then the entry; so many at the end -/
def gap : Nat → List CpInfo → List CpInfo
  | 0, r => r
  | n + 1, r => .unusable :: gap n r
def poolList (es : List (Nat × CpInfo)) (last : Nat) : List CpInfo := es.foldr (fun e r => gap e.1 (e.2 :: r)) (gap last [])
def pool (es : List (Nat × CpInfo)) (last : Nat) : Array CpInfo := ⟨poolList es last⟩
def fileOf (pool : Array CpInfo) (this : Nat) (attrs : Array Attribute := #[]) (ms : Array MethodInfo := #[]) (fl : Nat := 33) (sup : Nat := 0) (ifs : Array Nat := #[]) (fds : Array FieldInfo := #[]) : ClassFile where
  minorVersion := 0
  majorVersion := 65
  constantPool := pool
  accessFlags := fl
  thisClass := this
  superClass := sup
  interfaces := ifs
  fields := fds
  methods := ms
  attributes := attrs
def plain (name : String) (sup : Option ClassId) : Class where
  name := name
  kind := .ordinary
  loader := none
  accessFlags := 33
  super := sup
  interfaces := #[]
  cf := none
  fields := #[]
  methods := #[]
  instanceTypes := #[]
  staticTypes := #[]
  resolved := #[]
  callSites := []
  init := .initialized
  statics := none
  mirror := none

def pool0 : Array CpInfo := pool [(5, u "<init>"), (0, u "()V"), (1, .class_ 10), (1, u "java/lang/Object")] 113

def k0c0 : Code := { maxStack := 0, maxLocals := 1, code := object_method_1_code, exceptionTable := #[], attributes := #[] }
def k0m0 : Method := { name := "<init>", desc := "()V", sig := { parameters := [], returnType := none }, accessFlags := 1, code := some k0c0 }
/-- java/lang/Object -/
def k0 : Class := { plain "java/lang/Object" none with
  accessFlags := 33
  interfaces := #[]
  cf := some (fileOf pool0 8 #[] #[{ accessFlags := 1, nameIndex := 5, descriptorIndex := 6, attributes := #[] }] 33 0 #[] #[])
  fields := #[]
  methods := #[k0m0]
  instanceTypes := #[]
  staticTypes := #[]
  resolved := Array.replicate 124 none
  statics := none }

def pool1 : Array CpInfo := pool [(2, .class_ 4), (1, u "java/lang/Object"), (0, u "<init>"), (0, u "()V"), (0, .class_ 8), (0, u "com/example/bytewright/bytewright/classfile/ByteWriter"), (0, .methodref 7 10), (0, .nameAndType 5 11), (0, u "(I)V"), (0, .methodref 7 13), (0, .nameAndType 14 11), (0, u "u4"), (0, .integer 2147483647), (0, .methodref 7 17), (0, .nameAndType 18 19), (0, u "u4At"), (0, u "(II)V"), (0, .methodref 7 21), (0, .nameAndType 22 23), (0, u "size"), (0, u "()I"), (0, .methodref 7 25), (0, .nameAndType 26 27), (0, u "toByteArray"), (0, u "()[B"), (0, .long 4294967295), (1, .long 18446744073709551615), (1, .methodref 33 34), (0, .class_ 35), (0, .nameAndType 36 37), (0, u "com/example/bytewright/bytewright/classfile/ByteWriterU4AtPinLaw"), (0, u "decode"), (0, u "([B)J"), (2, u "law"), (0, u "(IIIII)Z")] 5

def k1m0 : Method := { name := "<init>", desc := "()V", sig := { parameters := [], returnType := none }, accessFlags := 2, code := none }
def k1c1 : Code := { maxStack := 5, maxLocals := 3, code := method_2_code, exceptionTable := #[], attributes := #[] }
def k1m1 : Method := { name := "decode", desc := "([B)J", sig := { parameters := [(.array .byte)], returnType := some .long }, accessFlags := 10, code := some k1c1 }
def k1c2 : Code := { maxStack := 6, maxLocals := 15, code := code, exceptionTable := #[], attributes := #[] }
def k1m2 : Method := { name := "law", desc := "(IIIII)Z", sig := { parameters := [.int, .int, .int, .int, .int], returnType := some .boolean }, accessFlags := 9, code := some k1c2 }
/-- com/example/bytewright/bytewright/classfile/ByteWriterU4AtPinLaw -/
def k1 : Class := { plain "com/example/bytewright/bytewright/classfile/ByteWriterU4AtPinLaw" (some 0) with
  accessFlags := 49
  interfaces := #[]
  cf := some (fileOf pool1 33 #[] #[{ accessFlags := 2, nameIndex := 5, descriptorIndex := 6, attributes := #[] }, { accessFlags := 10, nameIndex := 36, descriptorIndex := 37, attributes := #[] }, { accessFlags := 9, nameIndex := 40, descriptorIndex := 41, attributes := #[] }] 49 2 #[] #[])
  fields := #[]
  methods := #[k1m0, k1m1, k1m2]
  instanceTypes := #[]
  staticTypes := #[]
  resolved := Array.replicate 47 none
  statics := none }

def pool2 : Array CpInfo := pool [(2, .class_ 4), (1, u "com/example/bytewright/bytewright/classfile/ByteWriter"), (0, u "<init>"), (0, u "(I)V"), (0, .methodref 8 9), (0, .class_ 10), (0, .nameAndType 5 11), (0, u "java/lang/Object"), (0, u "()V"), (0, .fieldref 2 13), (0, .nameAndType 14 15), (0, u "bytes"), (0, u "[B"), (0, .methodref 2 17), (0, .nameAndType 18 6), (0, u "ensure"), (0, .fieldref 2 20), (0, .nameAndType 21 22), (0, u "size"), (0, u "I"), (2, u "u4"), (5, u "()I"), (14, .methodref 47 48), (0, .class_ 49), (0, .nameAndType 50 51), (0, u "java/util/Arrays"), (0, u "copyOf"), (0, u "([BI)[B"), (0, .methodref 53 54), (0, .class_ 55), (0, .nameAndType 56 57), (0, u "java/lang/Math"), (0, u "max"), (0, u "(II)I"), (7, u "(II)V"), (0, u "u4At"), (8, u "toByteArray"), (0, u "()[B")] 2

def k2m0 : Method := { name := "<init>", desc := "()V", sig := { parameters := [], returnType := none }, accessFlags := 0, code := none }
def k2c1 : Code := { maxStack := 2, maxLocals := 2, code := prog_8_method_2_code, exceptionTable := #[], attributes := #[] }
def k2m1 : Method := { name := "<init>", desc := "(I)V", sig := { parameters := [.int], returnType := none }, accessFlags := 0, code := some k2c1 }
def k2c2 : Code := { maxStack := 5, maxLocals := 2, code := prog_8_method_5_code, exceptionTable := #[], attributes := #[] }
def k2m2 : Method := { name := "u4", desc := "(I)V", sig := { parameters := [.int], returnType := none }, accessFlags := 0, code := some k2c2 }
def k2c3 : Code := { maxStack := 4, maxLocals := 3, code := prog_8_method_8_code, exceptionTable := #[], attributes := #[] }
def k2m3 : Method := { name := "u4At", desc := "(II)V", sig := { parameters := [.int, .int], returnType := none }, accessFlags := 0, code := some k2c3 }
def k2c4 : Code := { maxStack := 1, maxLocals := 1, code := prog_8_method_15_code, exceptionTable := #[], attributes := #[] }
def k2m4 : Method := { name := "size", desc := "()I", sig := { parameters := [], returnType := some .int }, accessFlags := 0, code := some k2c4 }
def k2c5 : Code := { maxStack := 2, maxLocals := 1, code := prog_8_method_16_code, exceptionTable := #[], attributes := #[] }
def k2m5 : Method := { name := "toByteArray", desc := "()[B", sig := { parameters := [], returnType := some (.array .byte) }, accessFlags := 0, code := some k2c5 }
def k2c6 : Code := { maxStack := 5, maxLocals := 2, code := prog_8_method_17_code, exceptionTable := #[], attributes := #[] }
def k2m6 : Method := { name := "ensure", desc := "(I)V", sig := { parameters := [.int], returnType := none }, accessFlags := 2, code := some k2c6 }
/-- com/example/bytewright/bytewright/classfile/ByteWriter -/
def k2 : Class := { plain "com/example/bytewright/bytewright/classfile/ByteWriter" (some 0) with
  accessFlags := 48
  interfaces := #[]
  cf := some (fileOf pool2 2 #[] #[{ accessFlags := 0, nameIndex := 5, descriptorIndex := 11, attributes := #[] }, { accessFlags := 0, nameIndex := 5, descriptorIndex := 6, attributes := #[] }, { accessFlags := 0, nameIndex := 25, descriptorIndex := 6, attributes := #[] }, { accessFlags := 0, nameIndex := 66, descriptorIndex := 65, attributes := #[] }, { accessFlags := 0, nameIndex := 21, descriptorIndex := 31, attributes := #[] }, { accessFlags := 0, nameIndex := 75, descriptorIndex := 76, attributes := #[] }, { accessFlags := 2, nameIndex := 18, descriptorIndex := 6, attributes := #[] }] 48 8 #[] #[{ accessFlags := 2, nameIndex := 14, descriptorIndex := 15, attributes := #[] }, { accessFlags := 2, nameIndex := 21, descriptorIndex := 22, attributes := #[] }])
  fields := #[{ name := "bytes", type := (.array .byte), accessFlags := 2, slot := 0, constantValue := 0 }, { name := "size", type := .int, accessFlags := 2, slot := 1, constantValue := 0 }]
  methods := #[k2m0, k2m1, k2m2, k2m3, k2m4, k2m5, k2m6]
  instanceTypes := #[(.array .byte), .int]
  staticTypes := #[]
  resolved := Array.replicate 79 none
  statics := none }

def pool3 : Array CpInfo := pool [(1, .class_ 2), (0, u "java/lang/Math"), (1, .class_ 6), (1, u "java/lang/Object"), (0, u "<init>"), (0, u "()V"), (89, .class_ 100), (1, u "java/lang/Math$RandomNumberGeneratorHolder"), (71, u "negativeZeroFloatBits"), (0, u "J"), (2, u "negativeZeroDoubleBits"), (21, u "max"), (2, u "min"), (43, u "$assertionsDisabled"), (0, u "Z"), (88, u "(II)I"), (2, u "twoToTheDoubleScaleDown"), (0, u "D"), (4, u "twoToTheDoubleScaleUp"), (9, u "E"), (3, u "PI"), (2, u "TAU"), (2, u "DEGREES_TO_RADIANS"), (0, u "RADIANS_TO_DEGREES")] 94

def k3m0 : Method := { name := "<init>", desc := "()V", sig := { parameters := [], returnType := none }, accessFlags := 2, code := none }
def k3c1 : Code := { maxStack := 2, maxLocals := 2, code := jdk_29_method_65_code, exceptionTable := #[], attributes := #[] }
def k3m1 : Method := { name := "max", desc := "(II)I", sig := { parameters := [.int, .int], returnType := some .int }, accessFlags := 9, code := some k3c1 }
def k3c2 : Code := { maxStack := 2, maxLocals := 2, code := jdk_29_method_69_code, exceptionTable := #[], attributes := #[] }
def k3m2 : Method := { name := "min", desc := "(II)I", sig := { parameters := [.int, .int], returnType := some .int }, accessFlags := 9, code := some k3c2 }
/-- java/lang/Math -/
def k3 : Class := { plain "java/lang/Math" (some 0) with
  accessFlags := 49
  interfaces := #[]
  cf := some (fileOf pool3 1 #[.nestMembers #[98]] #[{ accessFlags := 2, nameIndex := 7, descriptorIndex := 8, attributes := #[] }, { accessFlags := 9, nameIndex := 198, descriptorIndex := 335, attributes := #[] }, { accessFlags := 9, nameIndex := 201, descriptorIndex := 335, attributes := #[] }] 49 4 #[] #[{ accessFlags := 25, nameIndex := 354, descriptorIndex := 339, attributes := #[] }, { accessFlags := 25, nameIndex := 358, descriptorIndex := 339, attributes := #[] }, { accessFlags := 25, nameIndex := 361, descriptorIndex := 339, attributes := #[] }, { accessFlags := 26, nameIndex := 364, descriptorIndex := 339, attributes := #[] }, { accessFlags := 26, nameIndex := 365, descriptorIndex := 339, attributes := #[] }, { accessFlags := 26, nameIndex := 172, descriptorIndex := 173, attributes := #[] }, { accessFlags := 26, nameIndex := 176, descriptorIndex := 173, attributes := #[] }, { accessFlags := 8, nameIndex := 344, descriptorIndex := 339, attributes := #[] }, { accessFlags := 8, nameIndex := 338, descriptorIndex := 339, attributes := #[] }, { accessFlags := 4120, nameIndex := 245, descriptorIndex := 246, attributes := #[] }])
  fields := #[{ name := "E", type := .double, accessFlags := 25, slot := 0, constantValue := 0 }, { name := "PI", type := .double, accessFlags := 25, slot := 1, constantValue := 0 }, { name := "TAU", type := .double, accessFlags := 25, slot := 2, constantValue := 0 }, { name := "DEGREES_TO_RADIANS", type := .double, accessFlags := 26, slot := 3, constantValue := 0 }, { name := "RADIANS_TO_DEGREES", type := .double, accessFlags := 26, slot := 4, constantValue := 0 }, { name := "negativeZeroFloatBits", type := .long, accessFlags := 26, slot := 5, constantValue := 0 }, { name := "negativeZeroDoubleBits", type := .long, accessFlags := 26, slot := 6, constantValue := 0 }, { name := "twoToTheDoubleScaleUp", type := .double, accessFlags := 8, slot := 7, constantValue := 0 }, { name := "twoToTheDoubleScaleDown", type := .double, accessFlags := 8, slot := 8, constantValue := 0 }, { name := "$assertionsDisabled", type := .boolean, accessFlags := 4120, slot := 9, constantValue := 0 }]
  methods := #[k3m0, k3m1, k3m2]
  instanceTypes := #[]
  staticTypes := #[.double, .double, .double, .double, .double, .long, .long, .double, .double, .boolean]
  resolved := Array.replicate 460 none
  statics := none }

def pool4 : Array CpInfo := pool [(2, .class_ 4), (1, u "java/lang/Object"), (0, u "<init>"), (0, u "()V"), (7, .class_ 16), (1, u "java/util/Arrays"), (57, .class_ 76), (1, u "java/util/Arrays$NaturalOrder"), (36, .class_ 115), (1, u "java/util/Arrays$LegacyMergeSort"), (1, u "Z"), (32, .methodref 151 152), (0, .class_ 153), (0, .nameAndType 154 155), (0, u "java/lang/System"), (0, u "arraycopy"), (0, u "(Ljava/lang/Object;ILjava/lang/Object;II)V"), (146, u "copyOf"), (1, .methodref 305 306), (0, .class_ 307), (0, .nameAndType 308 309), (0, u "java/lang/Math"), (0, u "min"), (0, u "(II)I"), (65, .class_ 376), (0, u "java/util/Arrays$ArrayList"), (68, u "$assertionsDisabled"), (269, u "MIN_ARRAY_SORT_GRAN"), (0, u "I"), (2, u "INSERTIONSORT_THRESHOLD"), (149, u "([BI)[B"), (105, .class_ 976), (0, u "java/util/Arrays$ArrayItr")] 52

def k4m0 : Method := { name := "<init>", desc := "()V", sig := { parameters := [], returnType := none }, accessFlags := 2, code := none }
def k4c1 : Code := { maxStack := 6, maxLocals := 3, code := jdk_65_method_121_code, exceptionTable := #[], attributes := #[] }
def k4m1 : Method := { name := "copyOf", desc := "([BI)[B", sig := { parameters := [(.array .byte), .int], returnType := some (.array .byte) }, accessFlags := 9, code := some k4c1 }
/-- java/util/Arrays -/
def k4 : Class := { plain "java/util/Arrays" (some 0) with
  accessFlags := 49
  interfaces := #[]
  cf := some (fileOf pool4 14 #[.nestMembers #[975, 375, 113, 74]] #[{ accessFlags := 2, nameIndex := 5, descriptorIndex := 6, attributes := #[] }, { accessFlags := 9, nameIndex := 302, descriptorIndex := 869, attributes := #[] }] 49 2 #[] #[{ accessFlags := 26, nameIndex := 715, descriptorIndex := 716, attributes := #[] }, { accessFlags := 26, nameIndex := 719, descriptorIndex := 716, attributes := #[] }, { accessFlags := 4120, nameIndex := 445, descriptorIndex := 117, attributes := #[] }])
  fields := #[{ name := "MIN_ARRAY_SORT_GRAN", type := .int, accessFlags := 26, slot := 0, constantValue := 0 }, { name := "INSERTIONSORT_THRESHOLD", type := .int, accessFlags := 26, slot := 1, constantValue := 0 }, { name := "$assertionsDisabled", type := .boolean, accessFlags := 4120, slot := 2, constantValue := 0 }]
  methods := #[k4m0, k4m1]
  instanceTypes := #[]
  staticTypes := #[.int, .int, .boolean]
  resolved := Array.replicate 1029 none
  statics := none }

def pool5 : Array CpInfo := pool [(2, .class_ 4), (1, u "java/lang/Object"), (0, u "<init>"), (0, u "()V"), (1, .class_ 10), (1, u "java/lang/System"), (0, u "allowSecurityManager"), (0, u "I"), (16, u "cons"), (0, u "Ljava/io/Console;"), (77, .class_ 110), (1, u "java/lang/System$CallersHolder"), (43, u "initialErrStream"), (0, u "Ljava/io/PrintStream;"), (19, u "security"), (0, u "Ljava/lang/SecurityManager;"), (31, .class_ 209), (0, u "java/lang/System$1"), (7, u "props"), (0, u "Ljava/util/Properties;"), (2, u "lineSeparator"), (0, u "Ljava/lang/String;"), (96, .class_ 321), (1, u "java/lang/System$LoggerFinder"), (5, .class_ 328), (0, u "java/lang/System$Logger"), (67, u "err"), (2, u "out"), (91, u "notSupportedJnuEncoding"), (15, u "in"), (17, u "initialIn"), (0, u "Ljava/io/InputStream;"), (35, u "bootLayer"), (0, u "Ljava/lang/ModuleLayer;"), (99, .class_ 664), (0, u "java/lang/System$2"), (9, u "NEVER"), (2, u "MAYBE"), (49, u "arraycopy"), (0, u "(Ljava/lang/Object;ILjava/lang/Object;II)V"), (72, .class_ 802), (0, u "java/lang/System$Logger$Level")] 31

def k5m0 : Method := { name := "<init>", desc := "()V", sig := { parameters := [], returnType := none }, accessFlags := 2, code := none }
def k5m1 : Method := { name := "arraycopy", desc := "(Ljava/lang/Object;ILjava/lang/Object;II)V", sig := { parameters := [(.object "java/lang/Object"), .int, (.object "java/lang/Object"), .int, .int], returnType := none }, accessFlags := 265, code := none }
/-- java/lang/System -/
def k5 : Class := { plain "java/lang/System" (some 0) with
  accessFlags := 49
  interfaces := #[]
  cf := some (fileOf pool5 8 #[.nestMembers #[319, 327, 801, 108, 663, 208]] #[{ accessFlags := 2, nameIndex := 5, descriptorIndex := 6, attributes := #[] }, { accessFlags := 265, nameIndex := 727, descriptorIndex := 728, attributes := #[] }] 49 2 #[] #[{ accessFlags := 25, nameIndex := 507, descriptorIndex := 526, attributes := #[] }, { accessFlags := 25, nameIndex := 399, descriptorIndex := 155, attributes := #[] }, { accessFlags := 25, nameIndex := 396, descriptorIndex := 155, attributes := #[] }, { accessFlags := 10, nameIndex := 525, descriptorIndex := 526, attributes := #[] }, { accessFlags := 26, nameIndex := 674, descriptorIndex := 12, attributes := #[] }, { accessFlags := 26, nameIndex := 677, descriptorIndex := 12, attributes := #[] }, { accessFlags := 10, nameIndex := 11, descriptorIndex := 12, attributes := #[] }, { accessFlags := 74, nameIndex := 175, descriptorIndex := 176, attributes := #[] }, { accessFlags := 10, nameIndex := 491, descriptorIndex := 222, attributes := #[] }, { accessFlags := 74, nameIndex := 29, descriptorIndex := 30, attributes := #[] }, { accessFlags := 74, nameIndex := 154, descriptorIndex := 155, attributes := #[] }, { accessFlags := 10, nameIndex := 217, descriptorIndex := 218, attributes := #[] }, { accessFlags := 10, nameIndex := 221, descriptorIndex := 222, attributes := #[] }, { accessFlags := 8, nameIndex := 562, descriptorIndex := 563, attributes := #[] }])
  fields := #[{ name := "in", type := (.object "java/io/InputStream"), accessFlags := 25, slot := 0, constantValue := 0 }, { name := "out", type := (.object "java/io/PrintStream"), accessFlags := 25, slot := 1, constantValue := 0 }, { name := "err", type := (.object "java/io/PrintStream"), accessFlags := 25, slot := 2, constantValue := 0 }, { name := "initialIn", type := (.object "java/io/InputStream"), accessFlags := 10, slot := 3, constantValue := 0 }, { name := "NEVER", type := .int, accessFlags := 26, slot := 4, constantValue := 0 }, { name := "MAYBE", type := .int, accessFlags := 26, slot := 5, constantValue := 0 }, { name := "allowSecurityManager", type := .int, accessFlags := 10, slot := 6, constantValue := 0 }, { name := "security", type := (.object "java/lang/SecurityManager"), accessFlags := 74, slot := 7, constantValue := 0 }, { name := "notSupportedJnuEncoding", type := (.object "java/lang/String"), accessFlags := 10, slot := 8, constantValue := 0 }, { name := "cons", type := (.object "java/io/Console"), accessFlags := 74, slot := 9, constantValue := 0 }, { name := "initialErrStream", type := (.object "java/io/PrintStream"), accessFlags := 74, slot := 10, constantValue := 0 }, { name := "props", type := (.object "java/util/Properties"), accessFlags := 10, slot := 11, constantValue := 0 }, { name := "lineSeparator", type := (.object "java/lang/String"), accessFlags := 10, slot := 12, constantValue := 0 }, { name := "bootLayer", type := (.object "java/lang/ModuleLayer"), accessFlags := 8, slot := 13, constantValue := 0 }]
  methods := #[k5m0, k5m1]
  instanceTypes := #[]
  staticTypes := #[(.object "java/io/InputStream"), (.object "java/io/PrintStream"), (.object "java/io/PrintStream"), (.object "java/io/InputStream"), .int, .int, .int, (.object "java/lang/SecurityManager"), (.object "java/lang/String"), (.object "java/io/Console"), (.object "java/io/PrintStream"), (.object "java/util/Properties"), (.object "java/lang/String"), (.object "java/lang/ModuleLayer")]
  resolved := Array.replicate 834 none
  statics := none }

def pool6 : Array CpInfo := pool [(1, u "java/lang/Cloneable"), (0, .class_ 1), (0, u "java/lang/Object"), (0, .class_ 3)] 3

/-- java/lang/Cloneable -/
def k6 : Class := { plain "java/lang/Cloneable" (some 0) with
  accessFlags := 1537
  interfaces := #[]
  cf := some (fileOf pool6 2 #[] #[] 1537 4 #[] #[])
  fields := #[]
  methods := #[]
  instanceTypes := #[]
  staticTypes := #[]
  resolved := Array.replicate 8 none
  statics := none }

def pool7 : Array CpInfo := pool [(1, u "java/io/Serializable"), (0, .class_ 1), (0, u "java/lang/Object"), (0, .class_ 3)] 3

/-- java/io/Serializable -/
def k7 : Class := { plain "java/io/Serializable" (some 0) with
  accessFlags := 1537
  interfaces := #[]
  cf := some (fileOf pool7 2 #[] #[] 1537 4 #[] #[])
  fields := #[]
  methods := #[]
  instanceTypes := #[]
  staticTypes := #[]
  resolved := Array.replicate 8 none
  statics := none }

/-- the primitive byte -/
def k8 : Class := { plain "byte" none with kind := .primitive 'B', accessFlags := 0x411 }
/-- [B -/
def k9 : Class := { plain "[B" (some 0) with kind := .array 8 .byte, interfaces := #[6, 7], accessFlags := 1041 }

/-- the primitive int -/
def k10 : Class := { plain "int" none with kind := .primitive 'I', accessFlags := 0x411 }
/-- [I -/
def k11 : Class := { plain "[I" (some 0) with kind := .array 10 .int, interfaces := #[6, 7], accessFlags := 1041 }

def heap : Heap := #[]
def classes : Array Class := #[k0, k1, k2, k3, k4, k5, k6, k7, k8, k9, k10, k11]
def interned : List (Array UInt16 × Addr) := []
def slotsUsed : Nat := 0
def theMethod : MethodId := ⟨1, 2⟩
def args0 : Array Value := #[.int 5, .int 6, .int 7, .int 8, .int 9]
def aboutOver (below : List Frame) : State where
  vm := { classes := classes, interned := interned.toArray }
  heap := heap
  slotsUsed := slotsUsed
  threads := #[{ frames := .invoking theMethod args0 :: below }]
def below0 : List Frame := [.native { method := ⟨0, 0⟩, args := #[] }]
def about1 : State := aboutOver below0
def p0 : Program := .bare "" "" ""
def e0 : Env := launch0.env 0 0 0
theorem w_frames : about1.frames = Frame.invoking theMethod args0 :: below0 := rfl
set_option maxRecDepth 65536 in
theorem w_args : argsFit about1.vm theMethod args0 = true := by decide +kernel
set_option maxRecDepth 65536 in
theorem w_heap : heapFits about1 = true := by decide +kernel
set_option maxRecDepth 65536 in
theorem w_runnable : about1.curStatus? = some .runnable := by decide +kernel
set_option maxRecDepth 65536 in
theorem w_alone : about1.alone = true := by decide +kernel
set_option maxRecDepth 65536 in
theorem w_named : about1.methodNamed? x = some theMethod := by decide +kernel
set_option maxRecDepth 65536 in
theorem w_hears : about1.hears theMethod below0 = true := by decide +kernel
set_option maxRecDepth 65536 in
theorem w_ripe : about1.ripe theMethod args0 below0 = true := by decide +kernel
theorem w_running : about1.status = .running := rfl
set_option maxRecDepth 65536 in
theorem w_room : about1.hasRoom e0.platform room_1 = true :=
  launch0.hasRoom_least _ room_1 (by decide +kernel) (by decide +kernel) (by decide +kernel) (by decide +kernel) (by decide +kernel) (by decide +kernel)
theorem allAtoms_all (ts : List Jvm.Cond) (a : Array Jvm.Value) (st : Jvm.State) : (allAtoms ts).before a st = ts.all (fun c => c.before a st) := by
  induction ts with
  | nil => rfl
  | cons c t ih =>
    show (Jvm.Cond.and c (allAtoms t)).before a st = _
    rw [Jvm.Cond.before_and, ih, List.all_cons]
def words1 : List Jvm.Cond := Jvm.Cond.code x code maxLocals ret :: tables_1
/-- a 'code' word, met by the world's own term for the bytes: nothing is compared byte by byte -/
theorem code_word {y : MethodName} {bytes : ByteArray} {mx : Nat} {rt : Option FieldType} {a : Array Value} {s : State} {m : MethodId} {meth : Method} {c : Code} (h1 : s.methodNamed? y = some m) (h2 : s.vm.method? m = some meth) (h3 : meth.code = some c) (h4 : c.code = bytes)
    (h5 : (c.maxLocals == mx && c.exceptionTable.isEmpty && decide (c.maxStack ≤ mostOperands) && decide (meth.sig.returnType = rt) && !meth.locks && decide (parseMethodDescriptor y.desc = some meth.sig)) = true) : (Jvm.Cond.code y bytes mx rt).before a s = true := by
  simp only [Bool.and_eq_true, beq_iff_eq, Bool.not_eq_true', decide_eq_true_eq] at h5
  obtain ⟨⟨⟨⟨⟨g1, g2⟩, g3⟩, g4⟩, g5⟩, g6⟩ := h5
  simp [Cond.before, Cond.holds, Cond.value, h1, h2, h3, h4, g1, g2, g3, g4, g5, g6]
def isCode : Jvm.Cond → Bool
  | .code _ _ _ _ => true
  | _ => false
theorem all_split {L : List Jvm.Cond} {P : Jvm.Cond → Bool} (h1 : L.all (fun c => isCode c || P c) = true) (h2 : ∀ c ∈ L.filter isCode, P c = true) : L.all P = true := by
  refine List.all_eq_true.mpr fun c hc => ?_
  have h := List.all_eq_true.mp h1 c hc
  rcases Bool.eq_false_or_eq_true (isCode c) with hi | hi
  · exact h2 c (List.mem_filter.mpr ⟨hc, hi⟩)
  · simpa [hi] using h
set_option maxRecDepth 65536 in
theorem w_c0 : (Jvm.Cond.code x code maxLocals ret).before args0 about1 = true := code_word (m := ⟨1, 2⟩) (meth := k1m2) (c := k1c2) (by decide +kernel) rfl rfl rfl (by decide +kernel)
set_option maxRecDepth 65536 in
theorem w_c1 : (Jvm.Cond.code ({ cls := "com/example/bytewright/bytewright/classfile/ByteWriter", name := "<init>", desc := "(I)V" } : Jvm.MethodName) prog_8_method_2_code (2 : Nat) (Option.none : Option Jvm.ClassFile.FieldType)).before args0 about1 = true := code_word (m := ⟨2, 1⟩) (meth := k2m1) (c := k2c1) (by decide +kernel) rfl rfl rfl (by decide +kernel)
set_option maxRecDepth 65536 in
theorem w_c2 : (Jvm.Cond.code ({ cls := "java/lang/Object", name := "<init>", desc := "()V" } : Jvm.MethodName) object_method_1_code (1 : Nat) (Option.none : Option Jvm.ClassFile.FieldType)).before args0 about1 = true := code_word (m := ⟨0, 0⟩) (meth := k0m0) (c := k0c0) (by decide +kernel) rfl rfl rfl (by decide +kernel)
set_option maxRecDepth 65536 in
theorem w_c3 : (Jvm.Cond.code ({ cls := "com/example/bytewright/bytewright/classfile/ByteWriter", name := "u4", desc := "(I)V" } : Jvm.MethodName) prog_8_method_5_code (2 : Nat) (Option.none : Option Jvm.ClassFile.FieldType)).before args0 about1 = true := code_word (m := ⟨2, 2⟩) (meth := k2m2) (c := k2c2) (by decide +kernel) rfl rfl rfl (by decide +kernel)
set_option maxRecDepth 65536 in
theorem w_c4 : (Jvm.Cond.code ({ cls := "com/example/bytewright/bytewright/classfile/ByteWriter", name := "ensure", desc := "(I)V" } : Jvm.MethodName) prog_8_method_17_code (2 : Nat) (Option.none : Option Jvm.ClassFile.FieldType)).before args0 about1 = true := code_word (m := ⟨2, 6⟩) (meth := k2m6) (c := k2c6) (by decide +kernel) rfl rfl rfl (by decide +kernel)
set_option maxRecDepth 65536 in
theorem w_c5 : (Jvm.Cond.code ({ cls := "java/lang/Math", name := "max", desc := "(II)I" } : Jvm.MethodName) jdk_29_method_65_code (2 : Nat) (Option.some Jvm.ClassFile.FieldType.int)).before args0 about1 = true := code_word (m := ⟨3, 1⟩) (meth := k3m1) (c := k3c1) (by decide +kernel) rfl rfl rfl (by decide +kernel)
set_option maxRecDepth 65536 in
theorem w_c6 : (Jvm.Cond.code ({ cls := "java/util/Arrays", name := "copyOf", desc := "([BI)[B" } : Jvm.MethodName) jdk_65_method_121_code (3 : Nat) (Option.some (Jvm.ClassFile.FieldType.array Jvm.ClassFile.FieldType.byte))).before args0 about1 = true := code_word (m := ⟨4, 1⟩) (meth := k4m1) (c := k4c1) (by decide +kernel) rfl rfl rfl (by decide +kernel)
set_option maxRecDepth 65536 in
theorem w_c7 : (Jvm.Cond.code ({ cls := "java/lang/Math", name := "min", desc := "(II)I" } : Jvm.MethodName) jdk_29_method_69_code (2 : Nat) (Option.some Jvm.ClassFile.FieldType.int)).before args0 about1 = true := code_word (m := ⟨3, 2⟩) (meth := k3m2) (c := k3c2) (by decide +kernel) rfl rfl rfl (by decide +kernel)
set_option maxRecDepth 65536 in
theorem w_c8 : (Jvm.Cond.code ({ cls := "com/example/bytewright/bytewright/classfile/ByteWriter", name := "u4At", desc := "(II)V" } : Jvm.MethodName) prog_8_method_8_code (3 : Nat) (Option.none : Option Jvm.ClassFile.FieldType)).before args0 about1 = true := code_word (m := ⟨2, 3⟩) (meth := k2m3) (c := k2c3) (by decide +kernel) rfl rfl rfl (by decide +kernel)
set_option maxRecDepth 65536 in
theorem w_c9 : (Jvm.Cond.code ({ cls := "com/example/bytewright/bytewright/classfile/ByteWriter", name := "size", desc := "()I" } : Jvm.MethodName) prog_8_method_15_code (1 : Nat) (Option.some Jvm.ClassFile.FieldType.int)).before args0 about1 = true := code_word (m := ⟨2, 4⟩) (meth := k2m4) (c := k2c4) (by decide +kernel) rfl rfl rfl (by decide +kernel)
set_option maxRecDepth 65536 in
theorem w_c10 : (Jvm.Cond.code ({ cls := "com/example/bytewright/bytewright/classfile/ByteWriter", name := "toByteArray", desc := "()[B" } : Jvm.MethodName) prog_8_method_16_code (1 : Nat) (Option.some (Jvm.ClassFile.FieldType.array Jvm.ClassFile.FieldType.byte))).before args0 about1 = true := code_word (m := ⟨2, 5⟩) (meth := k2m5) (c := k2c5) (by decide +kernel) rfl rfl rfl (by decide +kernel)
set_option maxRecDepth 65536 in
theorem w_c11 : (Jvm.Cond.code ({ cls := "com/example/bytewright/bytewright/classfile/ByteWriterU4AtPinLaw", name := "decode", desc := "([B)J" } : Jvm.MethodName) method_2_code (3 : Nat) (Option.some Jvm.ClassFile.FieldType.long)).before args0 about1 = true := code_word (m := ⟨1, 1⟩) (meth := k1m1) (c := k1c1) (by decide +kernel) rfl rfl rfl (by decide +kernel)
def codes1 : List Jvm.Cond := [Jvm.Cond.code x code maxLocals ret, Jvm.Cond.code ({ cls := "com/example/bytewright/bytewright/classfile/ByteWriter", name := "<init>", desc := "(I)V" } : Jvm.MethodName) prog_8_method_2_code (2 : Nat) (Option.none : Option Jvm.ClassFile.FieldType), Jvm.Cond.code ({ cls := "java/lang/Object", name := "<init>", desc := "()V" } : Jvm.MethodName) object_method_1_code (1 : Nat) (Option.none : Option Jvm.ClassFile.FieldType), Jvm.Cond.code ({ cls := "com/example/bytewright/bytewright/classfile/ByteWriter", name := "u4", desc := "(I)V" } : Jvm.MethodName) prog_8_method_5_code (2 : Nat) (Option.none : Option Jvm.ClassFile.FieldType), Jvm.Cond.code ({ cls := "com/example/bytewright/bytewright/classfile/ByteWriter", name := "ensure", desc := "(I)V" } : Jvm.MethodName) prog_8_method_17_code (2 : Nat) (Option.none : Option Jvm.ClassFile.FieldType), Jvm.Cond.code ({ cls := "java/lang/Math", name := "max", desc := "(II)I" } : Jvm.MethodName) jdk_29_method_65_code (2 : Nat) (Option.some Jvm.ClassFile.FieldType.int), Jvm.Cond.code ({ cls := "java/util/Arrays", name := "copyOf", desc := "([BI)[B" } : Jvm.MethodName) jdk_65_method_121_code (3 : Nat) (Option.some (Jvm.ClassFile.FieldType.array Jvm.ClassFile.FieldType.byte)), Jvm.Cond.code ({ cls := "java/lang/Math", name := "min", desc := "(II)I" } : Jvm.MethodName) jdk_29_method_69_code (2 : Nat) (Option.some Jvm.ClassFile.FieldType.int), Jvm.Cond.code ({ cls := "com/example/bytewright/bytewright/classfile/ByteWriter", name := "u4At", desc := "(II)V" } : Jvm.MethodName) prog_8_method_8_code (3 : Nat) (Option.none : Option Jvm.ClassFile.FieldType), Jvm.Cond.code ({ cls := "com/example/bytewright/bytewright/classfile/ByteWriter", name := "size", desc := "()I" } : Jvm.MethodName) prog_8_method_15_code (1 : Nat) (Option.some Jvm.ClassFile.FieldType.int), Jvm.Cond.code ({ cls := "com/example/bytewright/bytewright/classfile/ByteWriter", name := "toByteArray", desc := "()[B" } : Jvm.MethodName) prog_8_method_16_code (1 : Nat) (Option.some (Jvm.ClassFile.FieldType.array Jvm.ClassFile.FieldType.byte)), Jvm.Cond.code ({ cls := "com/example/bytewright/bytewright/classfile/ByteWriterU4AtPinLaw", name := "decode", desc := "([B)J" } : Jvm.MethodName) method_2_code (3 : Nat) (Option.some Jvm.ClassFile.FieldType.long)]
set_option maxRecDepth 65536 in
theorem codes_eq : words1.filter isCode = codes1 := rfl
theorem w_codes : ∀ c ∈ words1.filter isCode, c.before args0 about1 = true := by
  rw [codes_eq]
  intro c hc
  simp only [codes1, List.mem_cons, List.not_mem_nil, or_false] at hc
  rcases hc with rfl | rfl | rfl | rfl | rfl | rfl | rfl | rfl | rfl | rfl | rfl | rfl
  · exact w_c0
  · exact w_c1
  · exact w_c2
  · exact w_c3
  · exact w_c4
  · exact w_c5
  · exact w_c6
  · exact w_c7
  · exact w_c8
  · exact w_c9
  · exact w_c10
  · exact w_c11
set_option maxRecDepth 65536 in
theorem w_t1 : (words1.take 24).all (fun c => isCode c || c.before args0 about1) = true := by decide +kernel
set_option maxRecDepth 65536 in
theorem w_t2 : ((words1.drop 24).take 24).all (fun c => isCode c || c.before args0 about1) = true := by decide +kernel
set_option maxRecDepth 65536 in
theorem w_t3 : ((words1.drop 24).drop 24).all (fun c => isCode c || c.before args0 about1) = true := by decide +kernel
theorem w_tables : (allAtoms (Jvm.Cond.code x code maxLocals ret :: tables_1)).before args0 about1 = true := by
  rw [allAtoms_all]
  show words1.all (fun c => c.before args0 about1) = true
  refine all_split ?_ w_codes
  rw [← List.take_append_drop 24 words1, List.all_append, w_t1, ← List.take_append_drop 24 (words1.drop 24), List.all_append, w_t2, w_t3]
  rfl
set_option maxRecDepth 65536 in
theorem w_case : (Jvm.Cond.and given_1 narrow_1).before args0 about1 = true := by decide +kernel
theorem w_applies : (headSpec (Jvm.Cond.code x code maxLocals ret :: tables_1) room_1).applies x e0.platform about1 = true :=
  (Spec.applies_iff w_frames).mpr ⟨w_running, w_runnable, w_alone, w_named, w_hears, w_ripe, w_room, w_tables⟩
theorem atStart : AtStart classFile x code maxLocals ret World_1 tables_1 room_1 Calls_1 rest_1 Pre_1 launch0 p0 e0 about1 theMethod args0 below0 :=
  ⟨lists_1, trivial, launch0.admits_env _ _ _, launch0.least_env, fairChoices_fair.cas, fairChoices_fair.clock, w_frames, w_args, w_heap, w_applies, trivial, trivial, w_case⟩
end start1
theorem witness_1 : WitnessClaimed_1 := ⟨start1.p0, start1.e0, start1.about1, start1.theMethod, start1.args0, start1.below0, start1.atStart⟩
end Jvm.Pilot.@@N@@
