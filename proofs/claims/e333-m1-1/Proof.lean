import JvmDerived
import JvmDerived.Pilot.@@N@@Statement
import JvmDerived.Pilot.@@N@@Code
set_option linter.unusedVariables false
set_option linter.unusedSimpArgs false
namespace Jvm.RoadKit
open Sem ClassFile Op Lib Jvm.Stand Jvm.Free Jvm.LawKit
section New
variable {p : Program} {l : Launch} {e : Env} {R : Room} {s : State} {m : MethodId} {args : Array Value} {below : List Frame} {meth : Method} {c : Code} {T : State} {locs : List Loc} {cells slots : Nat}
theorem retI (X : Stand p l e R s m args below meth c T locs cells slots) (hx : p.tables.exec = Jvm.exec) {pc : Nat} {Ls : Array Slot} {z : Int32} {rest : List Value} (hret : meth.sig.returnType = some .int) (hd : decode c.code pc = .ok (.ireturn, 1)) {fs : List Frame}
    (hl : ∀ (f : JFrame) (acts : List Action), f.method = m → f.locked = none → f.entered = [] → (doReturn e (T.setTop f) acts (some (.int z))).1 = T.setFrames fs) : Steps p.tables e below (T.setTop (mkF m pc Ls (.int z :: rest))) (T.setFrames fs) :=
  retOut X hx hret rfl (Or.inl ⟨rfl, Or.inl rfl, z, rfl⟩) hd hl
theorem retL (X : Stand p l e R s m args below meth c T locs cells slots) (hx : p.tables.exec = Jvm.exec) {pc : Nat} {Ls : Array Slot} {z : Int64} {rest : List Value} (hret : meth.sig.returnType = some .long) (hd : decode c.code pc = .ok (.lreturn, 1)) {fs : List Frame}
    (hl : ∀ (f : JFrame) (acts : List Action), f.method = m → f.locked = none → f.entered = [] → (doReturn e (T.setTop f) acts (some (.long z))).1 = T.setFrames fs) : Steps p.tables e below (T.setTop (mkF m pc Ls (.long z :: rest))) (T.setFrames fs) :=
  retOut X hx hret rfl (Or.inr (Or.inl ⟨rfl, rfl, z, rfl⟩)) hd hl
theorem retA (X : Stand p l e R s m args below meth c T locs cells slots) (hx : p.tables.exec = Jvm.exec) {pc : Nat} {Ls : Array Slot} {w : Value} {t : FieldType} {rest : List Value} (hret : meth.sig.returnType = some t) (ht : t.isReference = true) (hv : w.isRef = true) (hd : decode c.code pc = .ok (.areturn, 1)) {fs : List Frame}
    (hl : ∀ (f : JFrame) (acts : List Action), f.method = m → f.locked = none → f.entered = [] → (doReturn e (T.setTop f) acts (some w)).1 = T.setFrames fs) : Steps p.tables e below (T.setTop (mkF m pc Ls (w :: rest))) (T.setFrames fs) :=
  retOut X hx hret (by cases w <;> first | (simp [Value.isRef] at hv; done) | (cases t <;> first | rfl | (simp [FieldType.isReference] at ht; done))) (Or.inr (Or.inr (Or.inr (Or.inr ⟨rfl, ht, hv⟩)))) hd hl
/-- from here the run comes to an end of which P holds -/
def Go (tb : Tables) (e : Env) (below : List Frame) (P : State → Outcome → Prop) (A : State) : Prop := ∃ s₂ o, Steps tb e below A s₂ ∧ P s₂ o
theorem Go.via {tb : Tables} {e : Env} {below : List Frame} {P : State → Outcome → Prop} {A B : State} (st : ∀ t, Steps tb e below B t → Steps tb e below A t) (g : Go tb e below P B) : Go tb e below P A := by
  obtain ⟨s2, o, h, r⟩ := g
  exact ⟨s2, o, st _ h, r⟩
/-- what a contract says of the end -/
def PQ (s : State) (below : List Frame) (Q : Option Value → Heap → List Loc → Prop) (k n : Nat) (s₂ : State) (o : Outcome) : Prop := s₂.status = .running ∧ Ended s₂ below o ∧ ∃ v L, o = .returned v ∧ Q v s₂.heap L ∧ FrameEnd s o s₂ L k n
theorem Go.leave (X : Stand p l e R s m args below meth c T locs cells slots) (hlk : meth.locks = false) {v : Option Value} (hv : meth.sig.returnType = none → v = none) {A : State} {Q : Option Value → Heap → List Loc → Prop} {k n : Nat}
    (last : ∀ fs : List Frame, (∀ (f : JFrame) (acts : List Action), f.method = m → f.locked = none → f.entered = [] → (doReturn e (T.setTop f) acts v).1 = T.setFrames fs) → Steps p.tables e below A (T.setFrames fs)) (hk : cells ≤ k) (hn : slots ≤ n) (q : Q v T.heap locs) : Go p.tables e below (PQ s below Q k n) A := by
  obtain ⟨fs, hr, hrun, hended, hW, hsame⟩ := X.leave (v := v) hv hlk
  exact ⟨_, _, last fs hr, hrun, hended, _, _, rfl, q, ⟨_, rfl⟩, hW, hsame.mono hk hn⟩
end New
end Jvm.RoadKit
namespace Jvm.Pilot.@@N@@
open Jvm Jvm.ClassFile Sem Op Lib Jvm.Free Jvm.Stand Jvm.LawKit Jvm.RoadKit Bundle Jvm.Pilot.@@N@@.Jvm.D

theorem pd0 : parseMethodDescriptor "(JI)J" = some ⟨[.long, .int], some .long⟩ := by decide +kernel
theorem pd1 : parseMethodDescriptor "(J)J" = some ⟨[.long], some .long⟩ := by decide +kernel
theorem d1_0 : decode method_2_code 0 = .ok (.ldc2_w 7, 3) := by decide +kernel
theorem d1_3 : decode method_2_code 3 = .ok (.lload_n 0, 1) := by decide +kernel
theorem d1_4 : decode method_2_code 4 = .ok (.ladd, 1) := by decide +kernel
theorem d1_5 : decode method_2_code 5 = .ok (.bipush 8, 2) := by decide +kernel
theorem d1_7 : decode method_2_code 7 = .ok (.iload_n 2, 1) := by decide +kernel
theorem d1_8 : decode method_2_code 8 = .ok (.imul, 1) := by decide +kernel
theorem d1_9 : decode method_2_code 9 = .ok (.lshl, 1) := by decide +kernel
theorem d1_10 : decode method_2_code 10 = .ok (.lreturn, 1) := by decide +kernel
theorem pn_1 : plainName "es/quincena/records/EightBytesDigitsValuePinLaw" = true := by first | (simp [plainName, overriddenIn]; done) | decide +kernel
theorem ef_1 (m : MethodId) (x0 : Int64) (x1 : Int32) : entryFrame m #[(.long x0), (.int x1)] 3 = mkF m 0 #[.val (.long x0), .second, .val (.int x1)] [] := by first | (simp [entryFrame, mkF, argsToLocals, Value.category]; done) | rfl
def F1_0 (d : Int64) (i : Int32) : Int64 := (((48 : Int64) + d) <<< (((8 : Int32) * i) &&& 0x3f).toInt64)
def Q1 (Z : State) (d : Int64) (i : Int32) (h0 : Heap) (n0 : Nat) (v_ : Option Value) (h_ : Heap) (L_ : List Loc) : Prop := v_ = some (.long (F1_0 d i)) ∧ Fr n0 L_ ∧ h_ = h0
set_option maxRecDepth 65536 in
set_option maxHeartbeats 40000000 in
theorem rm1 (l : Launch) (Z : State) (a0 : Array Value) (hw : ∀ d ∈ tables_1, d.before a0 Z = true) (ws : List Jvm.Cond) (d : Int64) (i : Int32) (h0 : Heap) (n0 : Nat) (Z0 : n0 ≤ h0.size) :
    MetFree l (⟨"es/quincena/records/EightBytesDigitsValuePinLaw", "place", "(JI)J"⟩ : MethodName) (head1 (Jvm.Cond.code (⟨"es/quincena/records/EightBytesDigitsValuePinLaw", "place", "(JI)J"⟩ : MethodName) method_2_code 3 (some .long) :: ws) ({ frames := 0, cells := 0, slots := 0, locals := 0 } : Room)) (fun a_ U_ => a_ = #[(.long d), (.int i)] ∧ Z.Warmed39 U_.vm ∧ U_.heap = h0) (fun _ _ _ _ _ => True) (fun _ U_ o_ V_ => ∃ v_ L_, o_ = .returned v_ ∧ Q1 Z d i h0 n0 v_ V_.heap L_ ∧ FrameEnd U_ o_ V_ L_ ({ frames := 0, cells := 0, slots := 0, locals := 0 } : Room).cells ({ frames := 0, cells := 0, slots := 0, locals := 0 } : Room).slots) := by
  refine MetFree.of_bodySF (plainFor_of_name pn_1) hisR ?_
  intro p e s m args below meth c s₁ Bd hml0 hP hK
  obtain ⟨rfl, hZ, hh⟩ := hP
  have hx := Bd.exec
  have hby := Bd.bytes
  have hml : c.maxLocals = 3 := hml0
  have hown : s.vm.findClass "es/quincena/records/EightBytesDigitsValuePinLaw" = some m.cls := findClass_of_methodNamed Bd.named
  have hnm := (name_of_methodNamed Bd.named Bd.method).1
  have hlk : meth.locks = false := BodyLoose.notSynchronized Bd
  have hrt := Bd.returns
  have X0 : Stand p l e ({ frames := 0, cells := 0, slots := 0, locals := 0 } : Room) s m #[(.long d), (.int i)] below meth c s₁ [] 0 0 := Stand.of_body Bd
  have e0 : s₁.heap = h0 := by rw [← hh, Bd.state]; rfl
  have N0 := Fr.nil n0
  show Go p.tables e below (PQ s below (Q1 Z d i h0 n0) 0 0) _
  have t0 : Go p.tables e below (PQ s below (fun v_ h_ L_ => v_ = some (.long (F1_0 d i)) ∧ Fr n0 L_ ∧ h_ = h0) 0 0) (s₁.setTop (mkF m 0 #[.val (.long d), .second, .val (.int i)] [])) := by
    refine Go.via (B := s₁.setTop (mkF m 10 #[.val (.long d), .second, .val (.int i)] [(.long (((48 : Int64) + d) <<< (((8 : Int32) * i) &&& 0x3f).toInt64))])) (fun t_ k_ => ?_) ?_
    · show Steps p.tables e below (s₁.setTop (mkF m 0 #[.val (.long d), .second, .val (.int i)] [])) t_
      refine X0.ldc2Long hx hown (mvT hZ (hw _ (List.mem_of_getElem? (i := 13) rfl))) (g := (mkF m 0 #[.val (.long d), .second, .val (.int i)] [])) rfl (hb hby d1_0) _ ?_
      show Steps p.tables e below (s₁.setTop (mkF m 3 #[.val (.long d), .second, .val (.int i)] [(.long (48 : Int64))])) t_
      refine XS.lloadN X0.here hx rfl (hb hby d1_3) rfl ?_
      show Steps p.tables e below (s₁.setTop (mkF m 4 #[.val (.long d), .second, .val (.int i)] [(.long d), (.long (48 : Int64))])) t_
      refine XS.ladd X0.here hx rfl (hb hby d1_4) rfl ?_
      show Steps p.tables e below (s₁.setTop (mkF m 5 #[.val (.long d), .second, .val (.int i)] [(.long ((48 : Int64) + d))])) t_
      refine XS.bipush X0.here hx rfl (hb hby d1_5) ?_
      show Steps p.tables e below (s₁.setTop (mkF m 7 #[.val (.long d), .second, .val (.int i)] [(.int (8 : Int32)), (.long ((48 : Int64) + d))])) t_
      refine XS.iloadN X0.here hx rfl (hb hby d1_7) rfl ?_
      show Steps p.tables e below (s₁.setTop (mkF m 8 #[.val (.long d), .second, .val (.int i)] [(.int i), (.int (8 : Int32)), (.long ((48 : Int64) + d))])) t_
      refine XS.imul X0.here hx rfl (hb hby d1_8) rfl ?_
      show Steps p.tables e below (s₁.setTop (mkF m 9 #[.val (.long d), .second, .val (.int i)] [(.int ((8 : Int32) * i)), (.long ((48 : Int64) + d))])) t_
      refine XS.lshl X0.here hx rfl (hb hby d1_9) rfl ?_
      show Steps p.tables e below (s₁.setTop (mkF m 10 #[.val (.long d), .second, .val (.int i)] [(.long (((48 : Int64) + d) <<< (((8 : Int32) * i) &&& 0x3f).toInt64))])) t_
      exact k_
    exact Go.leave X0 hlk (v := (some (.long (((48 : Int64) + d) <<< (((8 : Int32) * i) &&& 0x3f).toInt64)))) (fun h => by rw [hrt] at h; cases h) (fun fs hr => retL X0 hx hrt (hb hby d1_10) hr) (by decide) (by decide) (⟨rfl, N0, e0⟩)
  refine Go.via (B := s₁.setTop (mkF m 0 #[.val (.long d), .second, .val (.int i)] [])) (fun t_ k_ => castTop (ef_1 m d i) k_) ?_
  exact t0
def DV1 (q : Int64) : Int64 := q - 3472328296227680304
def DV2 (q : Int64) : Int64 := (DV1 q * (10 : Int64) + (((DV1 q).toUInt64 >>> ((8 : Int32) &&& 0x3f).toInt64.toUInt64).toInt64)) &&& (71777214294589695 : Int64)
def DV3 (q : Int64) : Int64 := (DV2 q * (100 : Int64) + (((DV2 q).toUInt64 >>> ((16 : Int32) &&& 0x3f).toInt64.toUInt64).toInt64)) &&& (281470681808895 : Int64)
def DV (q : Int64) : Int64 := (DV3 q * (10000 : Int64) + (((DV3 q).toUInt64 >>> ((32 : Int32) &&& 0x3f).toInt64.toUInt64).toInt64)) &&& (4294967295 : Int64)
def NN (x : Int32) : Int64 := ((x &&& (2147483647 : Int32)) % (100000000 : Int32)).toInt64
def dg (n m : Int64) : Int64 := (n / m) - ((n / m) / (10 : Int64)) * (10 : Int64)
def dl (n : Int64) : Int64 := n - (n / (10 : Int64)) * (10 : Int64)
def EB (n : Int64) : Int64 := F1_0 (dg n 10000000) 0 ||| F1_0 (dg n 1000000) 1 ||| F1_0 (dg n 100000) 2 ||| F1_0 (dg n 10000) 3 ||| F1_0 (dg n 1000) 4 ||| F1_0 (dg n 100) 5 ||| F1_0 (dg n 10) 6 ||| F1_0 (dl n) 7
theorem i_range {v : Int64} {e : Int} (h : (v.toInt - e) % 18446744073709551616 = 0) (h0 : 0 ≤ e) (h1 : e < 9223372036854775808) : v.toInt = e := by
  have := rng64 v
  omega
theorem i_and {a b : Int64} (ha : 0 ≤ a.toInt) (hb : 0 ≤ b.toInt) : (a &&& b).toInt = ((a.toInt.toNat &&& b.toInt.toNat : Nat) : Int) := by
  have h := (c_andSL a b).2.1 ha
  have k : ∀ v : Int64, 0 ≤ v.toInt → v.toBitVec.toNat = v.toInt.toNat := fun v hv => by
    have e : v.toInt = v.toBitVec.toInt := rfl
    rw [e, BitVec.toInt_eq_toNat_cond] at hv ⊢
    have := v.toBitVec.isLt
    split at hv <;> split <;> omega
  have q : (a &&& b).toBitVec.toNat = a.toBitVec.toNat &&& b.toBitVec.toNat := by rw [Int64.toBitVec_and, BitVec.toNat_and]
  rw [← k a ha, ← k b hb, ← q, k _ h]
  omega
theorem n_and (m a b c d : Nat) (ha : a < 2 ^ m) (hc : c < 2 ^ m) : (a + 2 ^ m * b) &&& (c + 2 ^ m * d) = (a &&& c) + 2 ^ m * (b &&& d) := by
  have hac : a &&& c < 2 ^ m := Nat.lt_of_le_of_lt Nat.and_le_left ha
  apply Nat.eq_of_testBit_eq
  intro i
  rw [Nat.testBit_and, Nat.add_comm a, Nat.add_comm c, Nat.add_comm (a &&& c), Nat.testBit_two_pow_mul_add _ ha, Nat.testBit_two_pow_mul_add _ hc, Nat.testBit_two_pow_mul_add _ hac]
  split
  · rw [Nat.testBit_and]
  · rw [Nat.testBit_and]
theorem n_255 (t : Nat) : t &&& 255 = t % 256 := Nat.and_two_pow_sub_one_eq_mod t 8
theorem n_65535 (t : Nat) : t &&& 65535 = t % 65536 := Nat.and_two_pow_sub_one_eq_mod t 16
theorem n_m1 (t0 t1 t2 t3 : Nat) (h0 : t0 < 65536) (h1 : t1 < 65536) (h2 : t2 < 65536) : (t0 + 65536 * (t1 + 65536 * (t2 + 65536 * t3))) &&& 71777214294589695 = t0 % 256 + 65536 * (t1 % 256 + 65536 * (t2 % 256 + 65536 * (t3 % 256))) := by
  have e : (71777214294589695 : Nat) = 255 + 2 ^ 16 * (255 + 2 ^ 16 * (255 + 2 ^ 16 * 255)) := by decide
  have e2 : (65536 : Nat) = 2 ^ 16 := by decide
  rw [e, e2, n_and 16 _ _ _ _ (e2 ▸ h0) (by decide), n_and 16 _ _ _ _ (e2 ▸ h1) (by decide), n_and 16 _ _ _ _ (e2 ▸ h2) (by decide), n_255, n_255, n_255, n_255]
theorem n_m2 (t0 t1 : Nat) (h0 : t0 < 4294967296) : (t0 + 4294967296 * t1) &&& 281470681808895 = t0 % 65536 + 4294967296 * (t1 % 65536) := by
  have e : (281470681808895 : Nat) = 65535 + 2 ^ 32 * 65535 := by decide
  have e2 : (4294967296 : Nat) = 2 ^ 32 := by decide
  rw [e, e2, n_and 32 _ _ _ _ (e2 ▸ h0) (by decide), n_65535, n_65535]
/-- one byte laid -/
theorem i_place (d : Int64) (i : Int32) (k : Nat) (hk : ((8 : Int32) * i).toBitVec.toNat % 64 = k) (P : Nat) (hP : 2 ^ k = P) (hPb : P ≤ 72057594037927936) (a : Int) (ha : d.toInt = a) (h0 : 0 ≤ a) (h9 : a ≤ 9) : (F1_0 d i).toInt = (48 + a) * (P : Int) := by
  have h1 : ((48 : Int64) + d).toInt = 48 + a := i_range (by have := c_ladd (48 : Int64) d; have e : (48 : Int64).toInt = 48 := rfl; omega) (by omega) (by omega)
  have h2 := c_lshl ((48 : Int64) + d) ((8 : Int32) * i) k hk
  rw [h1, hP] at h2
  have hm : (48 + a) * (P : Int) ≤ 57 * 72057594037927936 := Int.mul_le_mul (by omega) (by omega) (by omega) (by omega)
  exact i_range h2 (Int.mul_nonneg (by omega) (by omega)) (by omega)
/-- one more byte by or -/
theorem i_or (acc pl : Int64) (k : Nat) (hk : k ≤ 63) (P : Int) (hP : P = (2 ^ k : Nat)) (A c : Int) (h1 : acc.toInt = A) (h2 : pl.toInt = c * P) (h0 : 0 ≤ A) (hA : A < P) (hc : 0 ≤ c) (hb : c * P + A < 9223372036854775808) : (acc ||| pl).toInt = c * P + A := by
  have hPp : 0 < P := by omega
  have h := c_orL' acc pl k hk P hP (by rw [h2]; exact Int.mul_emod_left c P) (by omega) (by omega)
  rw [h1, h2] at h
  exact i_range h (by have := Int.mul_nonneg hc (Int.le_of_lt hPp); omega) hb
theorem i_dg (n m : Int64) (M N : Int) (hm : m.toInt = M) (hm1 : m ≠ -1) (hn : n.toInt = N) (h0 : 0 ≤ N) (hM : 0 < M) : (dg n m).toInt = N / M % 10 := by
  have q := (c_ldiv n m M hm hm1).1 (by omega)
  rw [hn] at q
  have q0 : 0 ≤ N / M := Int.ediv_nonneg h0 (Int.le_of_lt hM)
  have r := (c_lrem (n / m) (10 : Int64) 10 rfl).1 (by omega)
  rw [q] at r
  exact r
theorem i_dl (n : Int64) (N : Int) (hn : n.toInt = N) (h0 : 0 ≤ N) : (dl n).toInt = N % 10 := by
  have r := (c_lrem n (10 : Int64) 10 rfl).1 (by omega)
  rw [hn] at r
  exact r
set_option maxHeartbeats 8000000 in
theorem i_eb (n : Int64) (a0 a1 a2 a3 a4 a5 a6 a7 : Int) (h0 : (dg n 10000000).toInt = a0) (h1 : (dg n 1000000).toInt = a1) (h2 : (dg n 100000).toInt = a2) (h3 : (dg n 10000).toInt = a3) (h4 : (dg n 1000).toInt = a4) (h5 : (dg n 100).toInt = a5) (h6 : (dg n 10).toInt = a6) (h7 : (dl n).toInt = a7)
    (r0 : 0 ≤ a0 ∧ a0 ≤ 9) (r1 : 0 ≤ a1 ∧ a1 ≤ 9) (r2 : 0 ≤ a2 ∧ a2 ≤ 9) (r3 : 0 ≤ a3 ∧ a3 ≤ 9) (r4 : 0 ≤ a4 ∧ a4 ≤ 9) (r5 : 0 ≤ a5 ∧ a5 ≤ 9) (r6 : 0 ≤ a6 ∧ a6 ≤ 9) (r7 : 0 ≤ a7 ∧ a7 ≤ 9) :
    (EB n).toInt = (48 + a0) + 256 * (48 + a1) + 65536 * (48 + a2) + 16777216 * (48 + a3) + 4294967296 * (48 + a4) + 1099511627776 * (48 + a5) + 281474976710656 * (48 + a6) + 72057594037927936 * (48 + a7) := by
  have p0 := i_place _ (0 : Int32) 0 (by decide) 1 (by decide) (by decide) a0 h0 r0.1 r0.2
  have p1 := i_place _ (1 : Int32) 8 (by decide) 256 (by decide) (by decide) a1 h1 r1.1 r1.2
  have p2 := i_place _ (2 : Int32) 16 (by decide) 65536 (by decide) (by decide) a2 h2 r2.1 r2.2
  have p3 := i_place _ (3 : Int32) 24 (by decide) 16777216 (by decide) (by decide) a3 h3 r3.1 r3.2
  have p4 := i_place _ (4 : Int32) 32 (by decide) 4294967296 (by decide) (by decide) a4 h4 r4.1 r4.2
  have p5 := i_place _ (5 : Int32) 40 (by decide) 1099511627776 (by decide) (by decide) a5 h5 r5.1 r5.2
  have p6 := i_place _ (6 : Int32) 48 (by decide) 281474976710656 (by decide) (by decide) a6 h6 r6.1 r6.2
  have p7 := i_place _ (7 : Int32) 56 (by decide) 72057594037927936 (by decide) (by decide) a7 h7 r7.1 r7.2
  have p0' : (F1_0 (dg n 10000000) 0).toInt = 48 + a0 := by rw [p0]; omega
  have s1 := i_or _ _ 8 (by decide) 256 (by decide) _ _ p0' p1 (by omega) (by omega) (by omega) (by omega)
  have s2 := i_or _ _ 16 (by decide) 65536 (by decide) _ _ s1 p2 (by omega) (by omega) (by omega) (by omega)
  have s3 := i_or _ _ 24 (by decide) 16777216 (by decide) _ _ s2 p3 (by omega) (by omega) (by omega) (by omega)
  have s4 := i_or _ _ 32 (by decide) 4294967296 (by decide) _ _ s3 p4 (by omega) (by omega) (by omega) (by omega)
  have s5 := i_or _ _ 40 (by decide) 1099511627776 (by decide) _ _ s4 p5 (by omega) (by omega) (by omega) (by omega)
  have s6 := i_or _ _ 48 (by decide) 281474976710656 (by decide) _ _ s5 p6 (by omega) (by omega) (by omega) (by omega)
  have s7 := i_or _ _ 56 (by decide) 72057594037927936 (by decide) _ _ s6 p7 (by omega) (by omega) (by omega) (by omega)
  have e : EB n = F1_0 (dg n 10000000) 0 ||| F1_0 (dg n 1000000) 1 ||| F1_0 (dg n 100000) 2 ||| F1_0 (dg n 10000) 3 ||| F1_0 (dg n 1000) 4 ||| F1_0 (dg n 100) 5 ||| F1_0 (dg n 10) 6 ||| F1_0 (dl n) 7 := rfl
  rw [e, s7]
  omega
theorem i_step (v c : Int64) (sh : Int32) (k : Nat) (hk : sh.toBitVec.toNat % 64 = k) (hk0 : 0 < k) (V K : Nat) (hv : v.toInt = (V : Int)) (hc : c.toInt = (K : Int)) (P : Nat) (hP : 2 ^ k = P) (q : Nat) (hq : V / P = q) (S : Nat) (hS : V * K + q = S) (hb : S < 9223372036854775808) : (v * c + ((v.toUInt64 >>> (sh &&& 0x3f).toInt64.toUInt64).toInt64)).toInt = (S : Int) := by
  have s := c_lushr v sh k hk hk0
  rw [hv] at s
  have e1 : (V : Int) % 18446744073709551616 = (V : Int) := by have := rng64 v; omega
  have e2 : (V : Int) / (P : Int) = (q : Int) := by rw [← hq]; exact (Int.natCast_ediv V P).symm
  rw [e1, hP, e2] at s
  have mm := c_lmul v c
  have e3 : (V : Int) * (K : Int) = ((V * K : Nat) : Int) := (Int.natCast_mul V K).symm
  rw [hv, hc, e3] at mm
  have mm' : (v * c).toInt = ((V * K : Nat) : Int) := i_range mm (by omega) (by omega)
  have a := c_ladd (v * c) ((v.toUInt64 >>> (sh &&& 0x3f).toInt64.toUInt64).toInt64)
  rw [mm', s] at a
  exact i_range (by omega) (by omega) (by omega)
theorem i_andN {a b : Int64} {A B : Nat} (ha : a.toInt = (A : Int)) (hb : b.toInt = (B : Int)) : (a &&& b).toInt = ((A &&& B : Nat) : Int) := by
  rw [i_and (by omega) (by omega), ha, hb]
  rfl
theorem n_m1d (s0 s1 s2 s3 s4 s5 s6 s7 : Nat) (h0 : s0 < 256) (h1 : s1 < 256) (h2 : s2 < 256) (h3 : s3 < 256) (h4 : s4 < 256) (h5 : s5 < 256) (h6 : s6 < 256) : (s0 + 256 * (s1 + 256 * (s2 + 256 * (s3 + 256 * (s4 + 256 * (s5 + 256 * (s6 + 256 * s7))))))) &&& 71777214294589695 = s0 + 65536 * (s2 + 65536 * (s4 + 65536 * s6)) := by
  have e : s0 + 256 * (s1 + 256 * (s2 + 256 * (s3 + 256 * (s4 + 256 * (s5 + 256 * (s6 + 256 * s7)))))) = (s0 + 256 * s1) + 65536 * ((s2 + 256 * s3) + 65536 * ((s4 + 256 * s5) + 65536 * (s6 + 256 * s7))) := by omega
  have m : ∀ x y : Nat, x < 256 → (x + 256 * y) % 256 = x := fun x y h => by omega
  rw [e, n_m1 _ _ _ _ (by omega) (by omega) (by omega), m _ _ h0, m _ _ h2, m _ _ h4, m _ _ h6]
theorem n_m2d (w0 w1 w2 w3 : Nat) (h0 : w0 < 65536) (h1 : w1 < 65536) (h2 : w2 < 65536) : (w0 + 65536 * (w1 + 65536 * (w2 + 65536 * w3))) &&& 281470681808895 = w0 + 4294967296 * w2 := by
  have e : w0 + 65536 * (w1 + 65536 * (w2 + 65536 * w3)) = (w0 + 65536 * w1) + 4294967296 * (w2 + 65536 * w3) := by omega
  have m : ∀ x y : Nat, x < 65536 → (x + 65536 * y) % 65536 = x := fun x y h => by omega
  rw [e, n_m2 _ _ (by omega), m _ _ h0, m _ _ h2]
theorem own_dv1 (e : Int64) (a0 a1 a2 a3 a4 a5 a6 a7 : Nat) (r0 : a0 ≤ 9) (r1 : a1 ≤ 9) (r2 : a2 ≤ 9) (r3 : a3 ≤ 9) (r4 : a4 ≤ 9) (r5 : a5 ≤ 9) (r6 : a6 ≤ 9) (r7 : a7 ≤ 9)
    (he : e.toInt = (((48 + a0) + 256 * (48 + a1) + 65536 * (48 + a2) + 16777216 * (48 + a3) + 4294967296 * (48 + a4) + 1099511627776 * (48 + a5) + 281474976710656 * (48 + a6) + 72057594037927936 * (48 + a7) : Nat) : Int)) :
    (DV1 e).toInt = ((a0 + 256 * (a1 + 256 * (a2 + 256 * (a3 + 256 * (a4 + 256 * (a5 + 256 * (a6 + 256 * a7)))))) : Nat) : Int) := by
  have s := c_lsub e (3472328296227680304 : Int64)
  have z : (3472328296227680304 : Int64).toInt = 3472328296227680304 := rfl
  rw [he, z] at s
  have e1 : DV1 e = e - 3472328296227680304 := rfl
  rw [e1]
  exact i_range (by omega) (by omega) (by omega)
theorem own_dv2 (e : Int64) (a0 a1 a2 a3 a4 a5 a6 a7 : Nat) (r0 : a0 ≤ 9) (r1 : a1 ≤ 9) (r2 : a2 ≤ 9) (r3 : a3 ≤ 9) (r4 : a4 ≤ 9) (r5 : a5 ≤ 9) (r6 : a6 ≤ 9) (r7 : a7 ≤ 9)
    (d1 : (DV1 e).toInt = ((a0 + 256 * (a1 + 256 * (a2 + 256 * (a3 + 256 * (a4 + 256 * (a5 + 256 * (a6 + 256 * a7)))))) : Nat) : Int)) :
    (DV2 e).toInt = (((10 * a0 + a1) + 65536 * ((10 * a2 + a3) + 65536 * ((10 * a4 + a5) + 65536 * (10 * a6 + a7))) : Nat) : Int) := by
  have m : ∀ x y : Nat, x ≤ 9 → (x + 256 * y) / 256 = y := fun x y h => by omega
  have s1 := i_step (DV1 e) (10 : Int64) (8 : Int32) 8 (by decide) (by decide) _ 10 d1 rfl 256 (by decide) _ (m _ _ r0) ((10 * a0 + a1) + 256 * ((10 * a1 + a2) + 256 * ((10 * a2 + a3) + 256 * ((10 * a3 + a4) + 256 * ((10 * a4 + a5) + 256 * ((10 * a5 + a6) + 256 * ((10 * a6 + a7) + 256 * (10 * a7)))))))) (by omega) (by omega)
  have e2 : DV2 e = (DV1 e * (10 : Int64) + (((DV1 e).toUInt64 >>> ((8 : Int32) &&& 0x3f).toInt64.toUInt64).toInt64)) &&& (71777214294589695 : Int64) := rfl
  rw [e2, i_andN (B := 71777214294589695) s1 rfl, n_m1d _ _ _ _ _ _ _ _ (by omega) (by omega) (by omega) (by omega) (by omega) (by omega) (by omega)]
theorem own_dv3 (e : Int64) (b0 b1 b2 b3 : Nat) (r0 : b0 ≤ 99) (r1 : b1 ≤ 99) (r2 : b2 ≤ 99) (r3 : b3 ≤ 99) (d2 : (DV2 e).toInt = ((b0 + 65536 * (b1 + 65536 * (b2 + 65536 * b3)) : Nat) : Int)) :
    (DV3 e).toInt = (((100 * b0 + b1) + 4294967296 * (100 * b2 + b3) : Nat) : Int) := by
  have m : ∀ x y : Nat, x ≤ 99 → (x + 65536 * y) / 65536 = y := fun x y h => by omega
  have s2 := i_step (DV2 e) (100 : Int64) (16 : Int32) 16 (by decide) (by decide) _ 100 d2 rfl 65536 (by decide) _ (m _ _ r0) ((100 * b0 + b1) + 65536 * ((100 * b1 + b2) + 65536 * ((100 * b2 + b3) + 65536 * (100 * b3)))) (by omega) (by omega)
  have e3 : DV3 e = (DV2 e * (100 : Int64) + (((DV2 e).toUInt64 >>> ((16 : Int32) &&& 0x3f).toInt64.toUInt64).toInt64)) &&& (281470681808895 : Int64) := rfl
  rw [e3, i_andN (B := 281470681808895) s2 rfl, n_m2d _ _ _ _ (by omega) (by omega) (by omega)]
theorem own_dv4 (e : Int64) (c0 c1 : Nat) (r0 : c0 ≤ 9999) (r1 : c1 ≤ 9999) (d3 : (DV3 e).toInt = ((c0 + 4294967296 * c1 : Nat) : Int)) : (DV e).toInt = ((10000 * c0 + c1 : Nat) : Int) := by
  have m : ∀ x y : Nat, x ≤ 9999 → (x + 4294967296 * y) / 4294967296 = y := fun x y h => by omega
  have s3 := i_step (DV3 e) (10000 : Int64) (32 : Int32) 32 (by decide) (by decide) _ 10000 d3 rfl 4294967296 (by decide) _ (m _ _ r0) ((10000 * c0 + c1) + 4294967296 * (10000 * c1)) (by omega) (by omega)
  have e4 : DV e = (DV3 e * (10000 : Int64) + (((DV3 e).toUInt64 >>> ((32 : Int32) &&& 0x3f).toInt64.toUInt64).toInt64)) &&& (4294967295 : Int64) := rfl
  have p : ((2 ^ 32 : Nat) : Int) = 4294967296 := by decide
  rw [e4, c_maskL _ (4294967295 : Int64) 32 (by decide) (by decide), s3, p]
  omega
theorem own_dv (e : Int64) (a0 a1 a2 a3 a4 a5 a6 a7 : Nat) (r0 : a0 ≤ 9) (r1 : a1 ≤ 9) (r2 : a2 ≤ 9) (r3 : a3 ≤ 9) (r4 : a4 ≤ 9) (r5 : a5 ≤ 9) (r6 : a6 ≤ 9) (r7 : a7 ≤ 9)
    (he : e.toInt = (((48 + a0) + 256 * (48 + a1) + 65536 * (48 + a2) + 16777216 * (48 + a3) + 4294967296 * (48 + a4) + 1099511627776 * (48 + a5) + 281474976710656 * (48 + a6) + 72057594037927936 * (48 + a7) : Nat) : Int)) :
    (DV e).toInt = ((10000 * (100 * (10 * a0 + a1) + (10 * a2 + a3)) + (100 * (10 * a4 + a5) + (10 * a6 + a7)) : Nat) : Int) :=
  own_dv4 e _ _ (by omega) (by omega) (own_dv3 e _ _ _ _ (by omega) (by omega) (by omega) (by omega) (own_dv2 e _ _ _ _ _ _ _ _ r0 r1 r2 r3 r4 r5 r6 r7 (own_dv1 e _ _ _ _ _ _ _ _ r0 r1 r2 r3 r4 r5 r6 r7 he)))
set_option maxHeartbeats 8000000 in
theorem own_main (x : Int32) : DV (EB (NN x)) = NN x := by
  have hx := c_and x (2147483647 : Int32) (by decide)
  have h2 := (c_irem (x &&& (2147483647 : Int32)) (100000000 : Int32) 100000000 rfl).1 hx.1
  have hn : (NN x).toInt = ((x &&& (2147483647 : Int32)) % (100000000 : Int32)).toInt := c_i2l _
  obtain ⟨N, hN⟩ : ∃ N : Nat, (N : Int) = (NN x).toInt := ⟨(NN x).toInt.toNat, by omega⟩
  have hr : N < 100000000 := by omega
  clear h2 hn hx
  have cv : ∀ M : Nat, ((N : Int) / (M : Int)) % 10 = ((N / M % 10 : Nat) : Int) := fun M => by rw [Int.natCast_emod, Int.natCast_ediv]; rfl
  have g0 : (dg (NN x) 10000000).toInt = ((N / 10000000 % 10 : Nat) : Int) := (i_dg (NN x) 10000000 10000000 N rfl (by decide) hN.symm (by omega) (by decide)).trans (cv 10000000)
  have g1 : (dg (NN x) 1000000).toInt = ((N / 1000000 % 10 : Nat) : Int) := (i_dg (NN x) 1000000 1000000 N rfl (by decide) hN.symm (by omega) (by decide)).trans (cv 1000000)
  have g2 : (dg (NN x) 100000).toInt = ((N / 100000 % 10 : Nat) : Int) := (i_dg (NN x) 100000 100000 N rfl (by decide) hN.symm (by omega) (by decide)).trans (cv 100000)
  have g3 : (dg (NN x) 10000).toInt = ((N / 10000 % 10 : Nat) : Int) := (i_dg (NN x) 10000 10000 N rfl (by decide) hN.symm (by omega) (by decide)).trans (cv 10000)
  have g4 : (dg (NN x) 1000).toInt = ((N / 1000 % 10 : Nat) : Int) := (i_dg (NN x) 1000 1000 N rfl (by decide) hN.symm (by omega) (by decide)).trans (cv 1000)
  have g5 : (dg (NN x) 100).toInt = ((N / 100 % 10 : Nat) : Int) := (i_dg (NN x) 100 100 N rfl (by decide) hN.symm (by omega) (by decide)).trans (cv 100)
  have g6 : (dg (NN x) 10).toInt = ((N / 10 % 10 : Nat) : Int) := (i_dg (NN x) 10 10 N rfl (by decide) hN.symm (by omega) (by decide)).trans (cv 10)
  have g7 : (dl (NN x)).toInt = ((N % 10 : Nat) : Int) := (i_dl (NN x) N hN.symm (by omega)).trans (Int.natCast_emod N 10).symm
  have b : ∀ M : Nat, M % 10 ≤ 9 := fun M => by omega
  have t1 : N / 1000000 = 10 * (N / 10000000) + N / 1000000 % 10 := by omega
  have t2 : N / 100000 = 10 * (N / 1000000) + N / 100000 % 10 := by omega
  have t3 : N / 10000 = 10 * (N / 100000) + N / 10000 % 10 := by omega
  have t4 : N / 1000 = 10 * (N / 10000) + N / 1000 % 10 := by omega
  have t5 : N / 100 = 10 * (N / 1000) + N / 100 % 10 := by omega
  have t6 : N / 10 = 10 * (N / 100) + N / 10 % 10 := by omega
  have t7 : N = 10 * (N / 10) + N % 10 := by omega
  have t0 : N / 10000000 = N / 10000000 % 10 := by omega
  have b0 := b (N / 10000000)
  have b1 := b (N / 1000000)
  have b2 := b (N / 100000)
  have b3 := b (N / 10000)
  have b4 := b (N / 1000)
  have b5 := b (N / 100)
  have b6 := b (N / 10)
  have b7 := b N
  generalize N / 10000000 % 10 = c0 at *
  generalize N / 1000000 % 10 = c1 at *
  generalize N / 100000 % 10 = c2 at *
  generalize N / 10000 % 10 = c3 at *
  generalize N / 1000 % 10 = c4 at *
  generalize N / 100 % 10 = c5 at *
  generalize N / 10 % 10 = c6 at *
  generalize N % 10 = c7 at *
  have hE := i_eb (NN x) _ _ _ _ _ _ _ _ g0 g1 g2 g3 g4 g5 g6 g7 (by omega) (by omega) (by omega) (by omega) (by omega) (by omega) (by omega) (by omega)
  have hD := own_dv (EB (NN x)) c0 c1 c2 c3 c4 c5 c6 c7 b0 b1 b2 b3 b4 b5 b6 b7 (by rw [hE]; omega)
  refine Int64.toInt_inj.mp ?_
  rw [hD, ← hN]
  clear hE hD g0 g1 g2 g3 g4 g5 g6 g7 cv b
  generalize N / 10000000 = q0 at *
  generalize N / 1000000 = q1 at *
  generalize N / 100000 = q2 at *
  generalize N / 10000 = q3 at *
  generalize N / 1000 = q4 at *
  generalize N / 100 = q5 at *
  generalize N / 10 = q6 at *
  omega
theorem d2_0 : decode prog_148_method_10_code 0 = .ok (.lload_n 0, 1) := by decide +kernel
theorem d2_1 : decode prog_148_method_10_code 1 = .ok (.getstatic 76, 3) := by decide +kernel
theorem d2_4 : decode prog_148_method_10_code 4 = .ok (.lsub, 1) := by decide +kernel
theorem d2_5 : decode prog_148_method_10_code 5 = .ok (.lstore_n 2, 1) := by decide +kernel
theorem d2_6 : decode prog_148_method_10_code 6 = .ok (.lload_n 2, 1) := by decide +kernel
theorem d2_7 : decode prog_148_method_10_code 7 = .ok (.ldc2_w 92, 3) := by decide +kernel
theorem d2_10 : decode prog_148_method_10_code 10 = .ok (.lmul, 1) := by decide +kernel
theorem d2_11 : decode prog_148_method_10_code 11 = .ok (.lload_n 2, 1) := by decide +kernel
theorem d2_12 : decode prog_148_method_10_code 12 = .ok (.bipush 8, 2) := by decide +kernel
theorem d2_14 : decode prog_148_method_10_code 14 = .ok (.lushr, 1) := by decide +kernel
theorem d2_15 : decode prog_148_method_10_code 15 = .ok (.ladd, 1) := by decide +kernel
theorem d2_16 : decode prog_148_method_10_code 16 = .ok (.ldc2_w 94, 3) := by decide +kernel
theorem d2_19 : decode prog_148_method_10_code 19 = .ok (.land, 1) := by decide +kernel
theorem d2_20 : decode prog_148_method_10_code 20 = .ok (.lstore 4, 2) := by decide +kernel
theorem d2_22 : decode prog_148_method_10_code 22 = .ok (.lload 4, 2) := by decide +kernel
theorem d2_24 : decode prog_148_method_10_code 24 = .ok (.ldc2_w 96, 3) := by decide +kernel
theorem d2_27 : decode prog_148_method_10_code 27 = .ok (.lmul, 1) := by decide +kernel
theorem d2_28 : decode prog_148_method_10_code 28 = .ok (.lload 4, 2) := by decide +kernel
theorem d2_30 : decode prog_148_method_10_code 30 = .ok (.bipush 16, 2) := by decide +kernel
theorem d2_32 : decode prog_148_method_10_code 32 = .ok (.lushr, 1) := by decide +kernel
theorem d2_33 : decode prog_148_method_10_code 33 = .ok (.ladd, 1) := by decide +kernel
theorem d2_34 : decode prog_148_method_10_code 34 = .ok (.ldc2_w 98, 3) := by decide +kernel
theorem d2_37 : decode prog_148_method_10_code 37 = .ok (.land, 1) := by decide +kernel
theorem d2_38 : decode prog_148_method_10_code 38 = .ok (.lstore 6, 2) := by decide +kernel
theorem d2_40 : decode prog_148_method_10_code 40 = .ok (.lload 6, 2) := by decide +kernel
theorem d2_42 : decode prog_148_method_10_code 42 = .ok (.ldc2_w 100, 3) := by decide +kernel
theorem d2_45 : decode prog_148_method_10_code 45 = .ok (.lmul, 1) := by decide +kernel
theorem d2_46 : decode prog_148_method_10_code 46 = .ok (.lload 6, 2) := by decide +kernel
theorem d2_48 : decode prog_148_method_10_code 48 = .ok (.bipush 32, 2) := by decide +kernel
theorem d2_50 : decode prog_148_method_10_code 50 = .ok (.lushr, 1) := by decide +kernel
theorem d2_51 : decode prog_148_method_10_code 51 = .ok (.ladd, 1) := by decide +kernel
theorem d2_52 : decode prog_148_method_10_code 52 = .ok (.ldc2_w 102, 3) := by decide +kernel
theorem d2_55 : decode prog_148_method_10_code 55 = .ok (.land, 1) := by decide +kernel
theorem d2_56 : decode prog_148_method_10_code 56 = .ok (.lreturn, 1) := by decide +kernel
theorem pn_2 : plainName "es/quincena/records/EightBytes" = true := by first | (simp [plainName, overriddenIn]; done) | decide +kernel
theorem ef_2 (m : MethodId) (x0 : Int64) : entryFrame m #[(.long x0)] 8 = mkF m 0 #[.val (.long x0), .second, .unset, .unset, .unset, .unset, .unset, .unset] [] := by first | (simp [entryFrame, mkF, argsToLocals, Value.category]; done) | rfl
def Q2 (Z : State) (q : Int64) (h0 : Heap) (n0 : Nat) (v : Option Value) (h : Heap) (L : List Loc) : Prop := v = some (.long (DV q)) ∧ Fr n0 L ∧ h = h0
set_option maxRecDepth 65536 in
set_option maxHeartbeats 40000000 in
theorem rm2 (l : Launch) (Z : State) (a0 : Array Value) (hw : ∀ d ∈ tables_1, d.before a0 Z = true) (ws : List Jvm.Cond) (q : Int64) (h0 : Heap) (n0 : Nat) (Z0 : n0 ≤ h0.size) (S : Sta Z h0 "es/quincena/records/EightBytes" "ZEROS" "J" (.long (3472328296227680304 : Int64))) :
    MetFree l (⟨"es/quincena/records/EightBytes", "digitsValue", "(J)J"⟩ : MethodName) (head1 (Jvm.Cond.code (⟨"es/quincena/records/EightBytes", "digitsValue", "(J)J"⟩ : MethodName) prog_148_method_10_code 8 (some .long) :: ws) ({ frames := 0, cells := 0, slots := 0, locals := 0 } : Room)) (fun a_ U_ => a_ = #[(.long q)] ∧ Z.Warmed39 U_.vm ∧ U_.heap = h0) (fun _ _ _ _ _ => True) (fun _ U_ o_ V_ => ∃ v_ L_, o_ = .returned v_ ∧ Q2 Z q h0 n0 v_ V_.heap L_ ∧ FrameEnd U_ o_ V_ L_ ({ frames := 0, cells := 0, slots := 0, locals := 0 } : Room).cells ({ frames := 0, cells := 0, slots := 0, locals := 0 } : Room).slots) := by
  refine MetFree.of_bodySF (plainFor_of_name pn_2) hisR ?_
  intro p e s m args below meth c s₁ Bd hml0 hP hK
  obtain ⟨rfl, hZ, hh⟩ := hP
  have hx := Bd.exec
  have hby := Bd.bytes
  have hml : c.maxLocals = 8 := hml0
  have hown : s.vm.findClass "es/quincena/records/EightBytes" = some m.cls := findClass_of_methodNamed Bd.named
  have hnm := (name_of_methodNamed Bd.named Bd.method).1
  have hlk : meth.locks = false := BodyLoose.notSynchronized Bd
  have hrt := Bd.returns
  have X0 : Stand p l e ({ frames := 0, cells := 0, slots := 0, locals := 0 } : Room) s m #[(.long q)] below meth c s₁ [] 0 0 := Stand.of_body Bd
  have e0 : s₁.heap = h0 := by rw [← hh, Bd.state]; rfl
  have N0 := Fr.nil n0
  show Go p.tables e below (PQ s below (Q2 Z q h0 n0) 0 0) _
  refine Go.via (B := s₁.setTop (mkF m 0 #[.val (.long q), .second, .unset, .unset, .unset, .unset, .unset, .unset] [])) (fun t_ k_ => castTop (ef_2 m q) k_) ?_
  refine Go.via (B := s₁.setTop (mkF m 1 #[.val (.long q), .second, .unset, .unset, .unset, .unset, .unset, .unset] [(.long q)])) (fun t_ k_ => ?_) ?_
  · show Steps p.tables e below (s₁.setTop (mkF m 0 #[.val (.long q), .second, .unset, .unset, .unset, .unset, .unset, .unset] [])) t_
    refine XS.lloadN X0.here hx rfl (hb hby d2_0) rfl ?_
    show Steps p.tables e below (s₁.setTop (mkF m 1 #[.val (.long q), .second, .unset, .unset, .unset, .unset, .unset, .unset] [(.long q)])) t_
    exact k_
  obtain ⟨T1, X1, e1, st1⟩ := getS2 X0 hx hZ hown (host := "") (Or.inl (hw _ (List.mem_of_getElem? (i := 18) rfl))) Via.refl e0 S (g := (mkF m 1 #[.val (.long q), .second, .unset, .unset, .unset, .unset, .unset, .unset] [(.long q)])) rfl (hb hby d2_1)
  refine Go.via st1 ?_
  show Go p.tables e below _ (T1.setTop (mkF m 4 #[.val (.long q), .second, .unset, .unset, .unset, .unset, .unset, .unset] [(.long (3472328296227680304 : Int64)), (.long q)]))
  refine Go.via (B := T1.setTop (mkF m 6 #[.val (.long q), .second, .val (.long (q - (3472328296227680304 : Int64))), .second, .unset, .unset, .unset, .unset] [])) (fun t_ k_ => ?_) ?_
  · show Steps p.tables e below (T1.setTop (mkF m 4 #[.val (.long q), .second, .unset, .unset, .unset, .unset, .unset, .unset] [(.long (3472328296227680304 : Int64)), (.long q)])) t_
    refine XS.lsub X1.here hx rfl (hb hby d2_4) rfl ?_
    show Steps p.tables e below (T1.setTop (mkF m 5 #[.val (.long q), .second, .unset, .unset, .unset, .unset, .unset, .unset] [(.long (q - (3472328296227680304 : Int64)))])) t_
    refine XS.lstoreN X1.here hx rfl (hb hby d2_5) rfl (l' := #[.val (.long q), .second, .val (.long (q - (3472328296227680304 : Int64))), .second, .unset, .unset, .unset, .unset]) rfl ?_
    show Steps p.tables e below (T1.setTop (mkF m 6 #[.val (.long q), .second, .val (.long (q - (3472328296227680304 : Int64))), .second, .unset, .unset, .unset, .unset] [])) t_
    exact k_
  show Go p.tables e below _ (T1.setTop (mkF m 6 #[.val (.long q), .second, .val (.long (DV1 q)), .second, .unset, .unset, .unset, .unset] []))
  refine Go.via (B := T1.setTop (mkF m 22 #[.val (.long q), .second, .val (.long (DV1 q)), .second, .val (.long ((((DV1 q) * (10 : Int64)) + (((DV1 q).toUInt64 >>> ((8 : Int32) &&& 0x3f).toInt64.toUInt64).toInt64)) &&& (71777214294589695 : Int64))), .second, .unset, .unset] [])) (fun t_ k_ => ?_) ?_
  · show Steps p.tables e below (T1.setTop (mkF m 6 #[.val (.long q), .second, .val (.long (DV1 q)), .second, .unset, .unset, .unset, .unset] [])) t_
    refine XS.lloadN X1.here hx rfl (hb hby d2_6) rfl ?_
    show Steps p.tables e below (T1.setTop (mkF m 7 #[.val (.long q), .second, .val (.long (DV1 q)), .second, .unset, .unset, .unset, .unset] [(.long (DV1 q))])) t_
    refine X1.ldc2Long hx hown (mvT hZ (hw _ (List.mem_of_getElem? (i := 20) rfl))) (g := (mkF m 7 #[.val (.long q), .second, .val (.long (DV1 q)), .second, .unset, .unset, .unset, .unset] [(.long (DV1 q))])) rfl (hb hby d2_7) _ ?_
    show Steps p.tables e below (T1.setTop (mkF m 10 #[.val (.long q), .second, .val (.long (DV1 q)), .second, .unset, .unset, .unset, .unset] [(.long (10 : Int64)), (.long (DV1 q))])) t_
    refine XS.lmul X1.here hx rfl (hb hby d2_10) rfl ?_
    show Steps p.tables e below (T1.setTop (mkF m 11 #[.val (.long q), .second, .val (.long (DV1 q)), .second, .unset, .unset, .unset, .unset] [(.long ((DV1 q) * (10 : Int64)))])) t_
    refine XS.lloadN X1.here hx rfl (hb hby d2_11) rfl ?_
    show Steps p.tables e below (T1.setTop (mkF m 12 #[.val (.long q), .second, .val (.long (DV1 q)), .second, .unset, .unset, .unset, .unset] [(.long (DV1 q)), (.long ((DV1 q) * (10 : Int64)))])) t_
    refine XS.bipush X1.here hx rfl (hb hby d2_12) ?_
    show Steps p.tables e below (T1.setTop (mkF m 14 #[.val (.long q), .second, .val (.long (DV1 q)), .second, .unset, .unset, .unset, .unset] [(.int (8 : Int32)), (.long (DV1 q)), (.long ((DV1 q) * (10 : Int64)))])) t_
    refine XS.lushr X1.here hx rfl (hb hby d2_14) rfl ?_
    show Steps p.tables e below (T1.setTop (mkF m 15 #[.val (.long q), .second, .val (.long (DV1 q)), .second, .unset, .unset, .unset, .unset] [(.long (((DV1 q).toUInt64 >>> ((8 : Int32) &&& 0x3f).toInt64.toUInt64).toInt64)), (.long ((DV1 q) * (10 : Int64)))])) t_
    refine XS.ladd X1.here hx rfl (hb hby d2_15) rfl ?_
    show Steps p.tables e below (T1.setTop (mkF m 16 #[.val (.long q), .second, .val (.long (DV1 q)), .second, .unset, .unset, .unset, .unset] [(.long (((DV1 q) * (10 : Int64)) + (((DV1 q).toUInt64 >>> ((8 : Int32) &&& 0x3f).toInt64.toUInt64).toInt64)))])) t_
    refine X1.ldc2Long hx hown (mvT hZ (hw _ (List.mem_of_getElem? (i := 21) rfl))) (g := (mkF m 16 #[.val (.long q), .second, .val (.long (DV1 q)), .second, .unset, .unset, .unset, .unset] [(.long (((DV1 q) * (10 : Int64)) + (((DV1 q).toUInt64 >>> ((8 : Int32) &&& 0x3f).toInt64.toUInt64).toInt64)))])) rfl (hb hby d2_16) _ ?_
    show Steps p.tables e below (T1.setTop (mkF m 19 #[.val (.long q), .second, .val (.long (DV1 q)), .second, .unset, .unset, .unset, .unset] [(.long (71777214294589695 : Int64)), (.long (((DV1 q) * (10 : Int64)) + (((DV1 q).toUInt64 >>> ((8 : Int32) &&& 0x3f).toInt64.toUInt64).toInt64)))])) t_
    refine XS.land X1.here hx rfl (hb hby d2_19) rfl ?_
    show Steps p.tables e below (T1.setTop (mkF m 20 #[.val (.long q), .second, .val (.long (DV1 q)), .second, .unset, .unset, .unset, .unset] [(.long ((((DV1 q) * (10 : Int64)) + (((DV1 q).toUInt64 >>> ((8 : Int32) &&& 0x3f).toInt64.toUInt64).toInt64)) &&& (71777214294589695 : Int64)))])) t_
    refine XS.lstore X1.here hx rfl (hb hby d2_20) rfl (l' := #[.val (.long q), .second, .val (.long (DV1 q)), .second, .val (.long ((((DV1 q) * (10 : Int64)) + (((DV1 q).toUInt64 >>> ((8 : Int32) &&& 0x3f).toInt64.toUInt64).toInt64)) &&& (71777214294589695 : Int64))), .second, .unset, .unset]) rfl ?_
    show Steps p.tables e below (T1.setTop (mkF m 22 #[.val (.long q), .second, .val (.long (DV1 q)), .second, .val (.long ((((DV1 q) * (10 : Int64)) + (((DV1 q).toUInt64 >>> ((8 : Int32) &&& 0x3f).toInt64.toUInt64).toInt64)) &&& (71777214294589695 : Int64))), .second, .unset, .unset] [])) t_
    exact k_
  show Go p.tables e below _ (T1.setTop (mkF m 22 #[.val (.long q), .second, .val (.long (DV1 q)), .second, .val (.long (DV2 q)), .second, .unset, .unset] []))
  refine Go.via (B := T1.setTop (mkF m 40 #[.val (.long q), .second, .val (.long (DV1 q)), .second, .val (.long (DV2 q)), .second, .val (.long ((((DV2 q) * (100 : Int64)) + (((DV2 q).toUInt64 >>> ((16 : Int32) &&& 0x3f).toInt64.toUInt64).toInt64)) &&& (281470681808895 : Int64))), .second] [])) (fun t_ k_ => ?_) ?_
  · show Steps p.tables e below (T1.setTop (mkF m 22 #[.val (.long q), .second, .val (.long (DV1 q)), .second, .val (.long (DV2 q)), .second, .unset, .unset] [])) t_
    refine XS.lload X1.here hx rfl (hb hby d2_22) rfl ?_
    show Steps p.tables e below (T1.setTop (mkF m 24 #[.val (.long q), .second, .val (.long (DV1 q)), .second, .val (.long (DV2 q)), .second, .unset, .unset] [(.long (DV2 q))])) t_
    refine X1.ldc2Long hx hown (mvT hZ (hw _ (List.mem_of_getElem? (i := 22) rfl))) (g := (mkF m 24 #[.val (.long q), .second, .val (.long (DV1 q)), .second, .val (.long (DV2 q)), .second, .unset, .unset] [(.long (DV2 q))])) rfl (hb hby d2_24) _ ?_
    show Steps p.tables e below (T1.setTop (mkF m 27 #[.val (.long q), .second, .val (.long (DV1 q)), .second, .val (.long (DV2 q)), .second, .unset, .unset] [(.long (100 : Int64)), (.long (DV2 q))])) t_
    refine XS.lmul X1.here hx rfl (hb hby d2_27) rfl ?_
    show Steps p.tables e below (T1.setTop (mkF m 28 #[.val (.long q), .second, .val (.long (DV1 q)), .second, .val (.long (DV2 q)), .second, .unset, .unset] [(.long ((DV2 q) * (100 : Int64)))])) t_
    refine XS.lload X1.here hx rfl (hb hby d2_28) rfl ?_
    show Steps p.tables e below (T1.setTop (mkF m 30 #[.val (.long q), .second, .val (.long (DV1 q)), .second, .val (.long (DV2 q)), .second, .unset, .unset] [(.long (DV2 q)), (.long ((DV2 q) * (100 : Int64)))])) t_
    refine XS.bipush X1.here hx rfl (hb hby d2_30) ?_
    show Steps p.tables e below (T1.setTop (mkF m 32 #[.val (.long q), .second, .val (.long (DV1 q)), .second, .val (.long (DV2 q)), .second, .unset, .unset] [(.int (16 : Int32)), (.long (DV2 q)), (.long ((DV2 q) * (100 : Int64)))])) t_
    refine XS.lushr X1.here hx rfl (hb hby d2_32) rfl ?_
    show Steps p.tables e below (T1.setTop (mkF m 33 #[.val (.long q), .second, .val (.long (DV1 q)), .second, .val (.long (DV2 q)), .second, .unset, .unset] [(.long (((DV2 q).toUInt64 >>> ((16 : Int32) &&& 0x3f).toInt64.toUInt64).toInt64)), (.long ((DV2 q) * (100 : Int64)))])) t_
    refine XS.ladd X1.here hx rfl (hb hby d2_33) rfl ?_
    show Steps p.tables e below (T1.setTop (mkF m 34 #[.val (.long q), .second, .val (.long (DV1 q)), .second, .val (.long (DV2 q)), .second, .unset, .unset] [(.long (((DV2 q) * (100 : Int64)) + (((DV2 q).toUInt64 >>> ((16 : Int32) &&& 0x3f).toInt64.toUInt64).toInt64)))])) t_
    refine X1.ldc2Long hx hown (mvT hZ (hw _ (List.mem_of_getElem? (i := 23) rfl))) (g := (mkF m 34 #[.val (.long q), .second, .val (.long (DV1 q)), .second, .val (.long (DV2 q)), .second, .unset, .unset] [(.long (((DV2 q) * (100 : Int64)) + (((DV2 q).toUInt64 >>> ((16 : Int32) &&& 0x3f).toInt64.toUInt64).toInt64)))])) rfl (hb hby d2_34) _ ?_
    show Steps p.tables e below (T1.setTop (mkF m 37 #[.val (.long q), .second, .val (.long (DV1 q)), .second, .val (.long (DV2 q)), .second, .unset, .unset] [(.long (281470681808895 : Int64)), (.long (((DV2 q) * (100 : Int64)) + (((DV2 q).toUInt64 >>> ((16 : Int32) &&& 0x3f).toInt64.toUInt64).toInt64)))])) t_
    refine XS.land X1.here hx rfl (hb hby d2_37) rfl ?_
    show Steps p.tables e below (T1.setTop (mkF m 38 #[.val (.long q), .second, .val (.long (DV1 q)), .second, .val (.long (DV2 q)), .second, .unset, .unset] [(.long ((((DV2 q) * (100 : Int64)) + (((DV2 q).toUInt64 >>> ((16 : Int32) &&& 0x3f).toInt64.toUInt64).toInt64)) &&& (281470681808895 : Int64)))])) t_
    refine XS.lstore X1.here hx rfl (hb hby d2_38) rfl (l' := #[.val (.long q), .second, .val (.long (DV1 q)), .second, .val (.long (DV2 q)), .second, .val (.long ((((DV2 q) * (100 : Int64)) + (((DV2 q).toUInt64 >>> ((16 : Int32) &&& 0x3f).toInt64.toUInt64).toInt64)) &&& (281470681808895 : Int64))), .second]) rfl ?_
    show Steps p.tables e below (T1.setTop (mkF m 40 #[.val (.long q), .second, .val (.long (DV1 q)), .second, .val (.long (DV2 q)), .second, .val (.long ((((DV2 q) * (100 : Int64)) + (((DV2 q).toUInt64 >>> ((16 : Int32) &&& 0x3f).toInt64.toUInt64).toInt64)) &&& (281470681808895 : Int64))), .second] [])) t_
    exact k_
  show Go p.tables e below _ (T1.setTop (mkF m 40 #[.val (.long q), .second, .val (.long (DV1 q)), .second, .val (.long (DV2 q)), .second, .val (.long (DV3 q)), .second] []))
  refine Go.via (B := T1.setTop (mkF m 56 #[.val (.long q), .second, .val (.long (DV1 q)), .second, .val (.long (DV2 q)), .second, .val (.long (DV3 q)), .second] [(.long ((((DV3 q) * (10000 : Int64)) + (((DV3 q).toUInt64 >>> ((32 : Int32) &&& 0x3f).toInt64.toUInt64).toInt64)) &&& (4294967295 : Int64)))])) (fun t_ k_ => ?_) ?_
  · show Steps p.tables e below (T1.setTop (mkF m 40 #[.val (.long q), .second, .val (.long (DV1 q)), .second, .val (.long (DV2 q)), .second, .val (.long (DV3 q)), .second] [])) t_
    refine XS.lload X1.here hx rfl (hb hby d2_40) rfl ?_
    show Steps p.tables e below (T1.setTop (mkF m 42 #[.val (.long q), .second, .val (.long (DV1 q)), .second, .val (.long (DV2 q)), .second, .val (.long (DV3 q)), .second] [(.long (DV3 q))])) t_
    refine X1.ldc2Long hx hown (mvT hZ (hw _ (List.mem_of_getElem? (i := 24) rfl))) (g := (mkF m 42 #[.val (.long q), .second, .val (.long (DV1 q)), .second, .val (.long (DV2 q)), .second, .val (.long (DV3 q)), .second] [(.long (DV3 q))])) rfl (hb hby d2_42) _ ?_
    show Steps p.tables e below (T1.setTop (mkF m 45 #[.val (.long q), .second, .val (.long (DV1 q)), .second, .val (.long (DV2 q)), .second, .val (.long (DV3 q)), .second] [(.long (10000 : Int64)), (.long (DV3 q))])) t_
    refine XS.lmul X1.here hx rfl (hb hby d2_45) rfl ?_
    show Steps p.tables e below (T1.setTop (mkF m 46 #[.val (.long q), .second, .val (.long (DV1 q)), .second, .val (.long (DV2 q)), .second, .val (.long (DV3 q)), .second] [(.long ((DV3 q) * (10000 : Int64)))])) t_
    refine XS.lload X1.here hx rfl (hb hby d2_46) rfl ?_
    show Steps p.tables e below (T1.setTop (mkF m 48 #[.val (.long q), .second, .val (.long (DV1 q)), .second, .val (.long (DV2 q)), .second, .val (.long (DV3 q)), .second] [(.long (DV3 q)), (.long ((DV3 q) * (10000 : Int64)))])) t_
    refine XS.bipush X1.here hx rfl (hb hby d2_48) ?_
    show Steps p.tables e below (T1.setTop (mkF m 50 #[.val (.long q), .second, .val (.long (DV1 q)), .second, .val (.long (DV2 q)), .second, .val (.long (DV3 q)), .second] [(.int (32 : Int32)), (.long (DV3 q)), (.long ((DV3 q) * (10000 : Int64)))])) t_
    refine XS.lushr X1.here hx rfl (hb hby d2_50) rfl ?_
    show Steps p.tables e below (T1.setTop (mkF m 51 #[.val (.long q), .second, .val (.long (DV1 q)), .second, .val (.long (DV2 q)), .second, .val (.long (DV3 q)), .second] [(.long (((DV3 q).toUInt64 >>> ((32 : Int32) &&& 0x3f).toInt64.toUInt64).toInt64)), (.long ((DV3 q) * (10000 : Int64)))])) t_
    refine XS.ladd X1.here hx rfl (hb hby d2_51) rfl ?_
    show Steps p.tables e below (T1.setTop (mkF m 52 #[.val (.long q), .second, .val (.long (DV1 q)), .second, .val (.long (DV2 q)), .second, .val (.long (DV3 q)), .second] [(.long (((DV3 q) * (10000 : Int64)) + (((DV3 q).toUInt64 >>> ((32 : Int32) &&& 0x3f).toInt64.toUInt64).toInt64)))])) t_
    refine X1.ldc2Long hx hown (mvT hZ (hw _ (List.mem_of_getElem? (i := 25) rfl))) (g := (mkF m 52 #[.val (.long q), .second, .val (.long (DV1 q)), .second, .val (.long (DV2 q)), .second, .val (.long (DV3 q)), .second] [(.long (((DV3 q) * (10000 : Int64)) + (((DV3 q).toUInt64 >>> ((32 : Int32) &&& 0x3f).toInt64.toUInt64).toInt64)))])) rfl (hb hby d2_52) _ ?_
    show Steps p.tables e below (T1.setTop (mkF m 55 #[.val (.long q), .second, .val (.long (DV1 q)), .second, .val (.long (DV2 q)), .second, .val (.long (DV3 q)), .second] [(.long (4294967295 : Int64)), (.long (((DV3 q) * (10000 : Int64)) + (((DV3 q).toUInt64 >>> ((32 : Int32) &&& 0x3f).toInt64.toUInt64).toInt64)))])) t_
    refine XS.land X1.here hx rfl (hb hby d2_55) rfl ?_
    show Steps p.tables e below (T1.setTop (mkF m 56 #[.val (.long q), .second, .val (.long (DV1 q)), .second, .val (.long (DV2 q)), .second, .val (.long (DV3 q)), .second] [(.long ((((DV3 q) * (10000 : Int64)) + (((DV3 q).toUInt64 >>> ((32 : Int32) &&& 0x3f).toInt64.toUInt64).toInt64)) &&& (4294967295 : Int64)))])) t_
    exact k_
  exact Go.leave X1 hlk (v := (some (.long ((((DV3 q) * (10000 : Int64)) + (((DV3 q).toUInt64 >>> ((32 : Int32) &&& 0x3f).toInt64.toUInt64).toInt64)) &&& (4294967295 : Int64))))) (fun h => by rw [hrt] at h; cases h) (fun fs hr => retL X1 hx hrt (hb hby d2_56) hr) (by decide) (by decide) (⟨rfl, N0, e1⟩)
theorem pn_0 : plainName "es/quincena/records/EightBytesDigitsValuePinLaw" = true := by first | (simp [plainName, overriddenIn]; done) | decide +kernel
theorem ef_0 (m : MethodId) (x0 : Int32) : entryFrame m #[(.int x0)] maxLocals = mkF m 0 #[.val (.int x0), .unset, .unset, .unset, .unset, .unset, .unset, .unset, .unset, .unset, .unset, .unset, .unset, .unset, .unset, .unset, .unset, .unset, .unset, .unset, .unset] [] := by first | (simp [entryFrame, mkF, argsToLocals, Value.category, maxLocals]; done) | rfl
def Q0 (Z : State) (px : Int32) (h0 : Heap) (n0 : Nat) (v : Option Value) (h : Heap) (L : List Loc) : Prop := v = some (.int 1) ∧ Fr n0 L
set_option maxRecDepth 65536 in
set_option maxHeartbeats 40000000 in
theorem rm0 (l : Launch) (Z : State) (a0 : Array Value) (hw : ∀ d ∈ tables_1, d.before a0 Z = true) (ws : List Jvm.Cond) (px : Int32) (h0 : Heap) (n0 : Nat) (Z0 : n0 ≤ h0.size) (S : Sta Z h0 "es/quincena/records/EightBytes" "ZEROS" "J" (.long (3472328296227680304 : Int64))) :
    MetFree l x (head1 (Jvm.Cond.code x code maxLocals ret :: ws) room_1) (fun a_ U_ => a_ = #[(.int px)] ∧ Z.Warmed39 U_.vm ∧ U_.heap = h0) (fun _ _ _ _ _ => True) (fun _ U_ o_ V_ => ∃ v_ L_, o_ = .returned v_ ∧ Q0 Z px h0 n0 v_ V_.heap L_ ∧ FrameEnd U_ o_ V_ L_ 0 0) := by
  refine MetFree.of_bodySF (plainFor_of_name pn_0) hisR ?_
  intro p e s m args below meth c s₁ Bd hml0 hP hK
  obtain ⟨rfl, hZ, hh⟩ := hP
  have hx := Bd.exec
  have hby := Bd.bytes
  have hml : c.maxLocals = 21 := hml0
  have hown : s.vm.findClass "es/quincena/records/EightBytesDigitsValuePinLaw" = some m.cls := findClass_of_methodNamed Bd.named
  have hnm := (name_of_methodNamed Bd.named Bd.method).1
  have hlk : meth.locks = false := BodyLoose.notSynchronized Bd
  have hrt := Bd.returns
  have X0 : Stand p l e room_1 s m #[(.int px)] below meth c s₁ [] 0 0 := Stand.of_body Bd
  have e0 : s₁.heap = h0 := by rw [← hh, Bd.state]; rfl
  have N0 := Fr.nil n0
  show Go p.tables e below (PQ s below (Q0 Z px h0 n0) 0 0) _
  refine Go.via (B := s₁.setTop (mkF m 0 #[.val (.int px), .unset, .unset, .unset, .unset, .unset, .unset, .unset, .unset, .unset, .unset, .unset, .unset, .unset, .unset, .unset, .unset, .unset, .unset, .unset, .unset] [])) (fun t_ k_ => castTop (ef_0 m px) k_) ?_
  refine Go.via (B := s₁.setTop (mkF m 9 #[.val (.int px), .val (.long (((px &&& (2147483647 : Int32)) % (100000000 : Int32)).toInt64)), .second, .unset, .unset, .unset, .unset, .unset, .unset, .unset, .unset, .unset, .unset, .unset, .unset, .unset, .unset, .unset, .unset, .unset, .unset] [])) (fun t_ k_ => ?_) ?_
  · show Steps p.tables e below (s₁.setTop (mkF m 0 #[.val (.int px), .unset, .unset, .unset, .unset, .unset, .unset, .unset, .unset, .unset, .unset, .unset, .unset, .unset, .unset, .unset, .unset, .unset, .unset, .unset, .unset] [])) t_
    refine XS.iloadN X0.here hx rfl (hb hby at_0) rfl ?_
    show Steps p.tables e below (s₁.setTop (mkF m 1 #[.val (.int px), .unset, .unset, .unset, .unset, .unset, .unset, .unset, .unset, .unset, .unset, .unset, .unset, .unset, .unset, .unset, .unset, .unset, .unset, .unset, .unset] [(.int px)])) t_
    refine X0.ldcInt hx hown (mvT hZ (hw _ (List.mem_of_getElem? (i := 0) rfl))) (g := (mkF m 1 #[.val (.int px), .unset, .unset, .unset, .unset, .unset, .unset, .unset, .unset, .unset, .unset, .unset, .unset, .unset, .unset, .unset, .unset, .unset, .unset, .unset, .unset] [(.int px)])) rfl (hb hby at_1) _ ?_
    show Steps p.tables e below (s₁.setTop (mkF m 3 #[.val (.int px), .unset, .unset, .unset, .unset, .unset, .unset, .unset, .unset, .unset, .unset, .unset, .unset, .unset, .unset, .unset, .unset, .unset, .unset, .unset, .unset] [(.int (2147483647 : Int32)), (.int px)])) t_
    refine XS.iand X0.here hx rfl (hb hby at_3) rfl ?_
    show Steps p.tables e below (s₁.setTop (mkF m 4 #[.val (.int px), .unset, .unset, .unset, .unset, .unset, .unset, .unset, .unset, .unset, .unset, .unset, .unset, .unset, .unset, .unset, .unset, .unset, .unset, .unset, .unset] [(.int (px &&& (2147483647 : Int32)))])) t_
    refine X0.ldcInt hx hown (mvT hZ (hw _ (List.mem_of_getElem? (i := 1) rfl))) (g := (mkF m 4 #[.val (.int px), .unset, .unset, .unset, .unset, .unset, .unset, .unset, .unset, .unset, .unset, .unset, .unset, .unset, .unset, .unset, .unset, .unset, .unset, .unset, .unset] [(.int (px &&& (2147483647 : Int32)))])) rfl (hb hby at_4) _ ?_
    show Steps p.tables e below (s₁.setTop (mkF m 6 #[.val (.int px), .unset, .unset, .unset, .unset, .unset, .unset, .unset, .unset, .unset, .unset, .unset, .unset, .unset, .unset, .unset, .unset, .unset, .unset, .unset, .unset] [(.int (100000000 : Int32)), (.int (px &&& (2147483647 : Int32)))])) t_
    refine iremM X0 hx rfl (hb hby at_6) rfl (by decide) ?_
    show Steps p.tables e below (s₁.setTop (mkF m 7 #[.val (.int px), .unset, .unset, .unset, .unset, .unset, .unset, .unset, .unset, .unset, .unset, .unset, .unset, .unset, .unset, .unset, .unset, .unset, .unset, .unset, .unset] [(.int ((px &&& (2147483647 : Int32)) % (100000000 : Int32)))])) t_
    refine XS.i2l X0.here hx rfl (hb hby at_7) rfl ?_
    show Steps p.tables e below (s₁.setTop (mkF m 8 #[.val (.int px), .unset, .unset, .unset, .unset, .unset, .unset, .unset, .unset, .unset, .unset, .unset, .unset, .unset, .unset, .unset, .unset, .unset, .unset, .unset, .unset] [(.long (((px &&& (2147483647 : Int32)) % (100000000 : Int32)).toInt64))])) t_
    refine XS.lstoreN X0.here hx rfl (hb hby at_8) rfl (l' := #[.val (.int px), .val (.long (((px &&& (2147483647 : Int32)) % (100000000 : Int32)).toInt64)), .second, .unset, .unset, .unset, .unset, .unset, .unset, .unset, .unset, .unset, .unset, .unset, .unset, .unset, .unset, .unset, .unset, .unset, .unset]) rfl ?_
    show Steps p.tables e below (s₁.setTop (mkF m 9 #[.val (.int px), .val (.long (((px &&& (2147483647 : Int32)) % (100000000 : Int32)).toInt64)), .second, .unset, .unset, .unset, .unset, .unset, .unset, .unset, .unset, .unset, .unset, .unset, .unset, .unset, .unset, .unset, .unset, .unset, .unset] [])) t_
    exact k_
  show Go p.tables e below _ (s₁.setTop (mkF m 9 #[.val (.int px), .val (.long (NN px)), .second, .unset, .unset, .unset, .unset, .unset, .unset, .unset, .unset, .unset, .unset, .unset, .unset, .unset, .unset, .unset, .unset, .unset, .unset] []))
  refine Go.via (B := s₁.setTop (mkF m 19 #[.val (.int px), .val (.long (NN px)), .second, .val (.long (((NN px) / (10000000 : Int64)) - (((NN px) / (10000000 : Int64)) / (10 : Int64)) * (10 : Int64))), .second, .unset, .unset, .unset, .unset, .unset, .unset, .unset, .unset, .unset, .unset, .unset, .unset, .unset, .unset, .unset, .unset] [])) (fun t_ k_ => ?_) ?_
  · show Steps p.tables e below (s₁.setTop (mkF m 9 #[.val (.int px), .val (.long (NN px)), .second, .unset, .unset, .unset, .unset, .unset, .unset, .unset, .unset, .unset, .unset, .unset, .unset, .unset, .unset, .unset, .unset, .unset, .unset] [])) t_
    refine XS.lloadN X0.here hx rfl (hb hby at_9) rfl ?_
    show Steps p.tables e below (s₁.setTop (mkF m 10 #[.val (.int px), .val (.long (NN px)), .second, .unset, .unset, .unset, .unset, .unset, .unset, .unset, .unset, .unset, .unset, .unset, .unset, .unset, .unset, .unset, .unset, .unset, .unset] [(.long (NN px))])) t_
    refine X0.ldc2Long hx hown (mvT hZ (hw _ (List.mem_of_getElem? (i := 2) rfl))) (g := (mkF m 10 #[.val (.int px), .val (.long (NN px)), .second, .unset, .unset, .unset, .unset, .unset, .unset, .unset, .unset, .unset, .unset, .unset, .unset, .unset, .unset, .unset, .unset, .unset, .unset] [(.long (NN px))])) rfl (hb hby at_10) _ ?_
    show Steps p.tables e below (s₁.setTop (mkF m 13 #[.val (.int px), .val (.long (NN px)), .second, .unset, .unset, .unset, .unset, .unset, .unset, .unset, .unset, .unset, .unset, .unset, .unset, .unset, .unset, .unset, .unset, .unset, .unset] [(.long (10000000 : Int64)), (.long (NN px))])) t_
    refine XS.ldiv X0.here hx rfl (hb hby at_13) rfl (by decide) ?_
    show Steps p.tables e below (s₁.setTop (mkF m 14 #[.val (.int px), .val (.long (NN px)), .second, .unset, .unset, .unset, .unset, .unset, .unset, .unset, .unset, .unset, .unset, .unset, .unset, .unset, .unset, .unset, .unset, .unset, .unset] [(.long ((NN px) / (10000000 : Int64)))])) t_
    refine X0.ldc2Long hx hown (mvT hZ (hw _ (List.mem_of_getElem? (i := 3) rfl))) (g := (mkF m 14 #[.val (.int px), .val (.long (NN px)), .second, .unset, .unset, .unset, .unset, .unset, .unset, .unset, .unset, .unset, .unset, .unset, .unset, .unset, .unset, .unset, .unset, .unset, .unset] [(.long ((NN px) / (10000000 : Int64)))])) rfl (hb hby at_14) _ ?_
    show Steps p.tables e below (s₁.setTop (mkF m 17 #[.val (.int px), .val (.long (NN px)), .second, .unset, .unset, .unset, .unset, .unset, .unset, .unset, .unset, .unset, .unset, .unset, .unset, .unset, .unset, .unset, .unset, .unset, .unset] [(.long (10 : Int64)), (.long ((NN px) / (10000000 : Int64)))])) t_
    refine XS.lrem X0.here hx rfl (hb hby at_17) rfl (by decide) ?_
    show Steps p.tables e below (s₁.setTop (mkF m 18 #[.val (.int px), .val (.long (NN px)), .second, .unset, .unset, .unset, .unset, .unset, .unset, .unset, .unset, .unset, .unset, .unset, .unset, .unset, .unset, .unset, .unset, .unset, .unset] [(.long (((NN px) / (10000000 : Int64)) - (((NN px) / (10000000 : Int64)) / (10 : Int64)) * (10 : Int64)))])) t_
    refine XS.lstoreN X0.here hx rfl (hb hby at_18) rfl (l' := #[.val (.int px), .val (.long (NN px)), .second, .val (.long (((NN px) / (10000000 : Int64)) - (((NN px) / (10000000 : Int64)) / (10 : Int64)) * (10 : Int64))), .second, .unset, .unset, .unset, .unset, .unset, .unset, .unset, .unset, .unset, .unset, .unset, .unset, .unset, .unset, .unset, .unset]) rfl ?_
    show Steps p.tables e below (s₁.setTop (mkF m 19 #[.val (.int px), .val (.long (NN px)), .second, .val (.long (((NN px) / (10000000 : Int64)) - (((NN px) / (10000000 : Int64)) / (10 : Int64)) * (10 : Int64))), .second, .unset, .unset, .unset, .unset, .unset, .unset, .unset, .unset, .unset, .unset, .unset, .unset, .unset, .unset, .unset, .unset] [])) t_
    exact k_
  show Go p.tables e below _ (s₁.setTop (mkF m 19 #[.val (.int px), .val (.long (NN px)), .second, .val (.long (dg (NN px) 10000000)), .second, .unset, .unset, .unset, .unset, .unset, .unset, .unset, .unset, .unset, .unset, .unset, .unset, .unset, .unset, .unset, .unset] []))
  refine Go.via (B := s₁.setTop (mkF m 30 #[.val (.int px), .val (.long (NN px)), .second, .val (.long (dg (NN px) 10000000)), .second, .val (.long (((NN px) / (1000000 : Int64)) - (((NN px) / (1000000 : Int64)) / (10 : Int64)) * (10 : Int64))), .second, .unset, .unset, .unset, .unset, .unset, .unset, .unset, .unset, .unset, .unset, .unset, .unset, .unset, .unset] [])) (fun t_ k_ => ?_) ?_
  · show Steps p.tables e below (s₁.setTop (mkF m 19 #[.val (.int px), .val (.long (NN px)), .second, .val (.long (dg (NN px) 10000000)), .second, .unset, .unset, .unset, .unset, .unset, .unset, .unset, .unset, .unset, .unset, .unset, .unset, .unset, .unset, .unset, .unset] [])) t_
    refine XS.lloadN X0.here hx rfl (hb hby at_19) rfl ?_
    show Steps p.tables e below (s₁.setTop (mkF m 20 #[.val (.int px), .val (.long (NN px)), .second, .val (.long (dg (NN px) 10000000)), .second, .unset, .unset, .unset, .unset, .unset, .unset, .unset, .unset, .unset, .unset, .unset, .unset, .unset, .unset, .unset, .unset] [(.long (NN px))])) t_
    refine X0.ldc2Long hx hown (mvT hZ (hw _ (List.mem_of_getElem? (i := 4) rfl))) (g := (mkF m 20 #[.val (.int px), .val (.long (NN px)), .second, .val (.long (dg (NN px) 10000000)), .second, .unset, .unset, .unset, .unset, .unset, .unset, .unset, .unset, .unset, .unset, .unset, .unset, .unset, .unset, .unset, .unset] [(.long (NN px))])) rfl (hb hby at_20) _ ?_
    show Steps p.tables e below (s₁.setTop (mkF m 23 #[.val (.int px), .val (.long (NN px)), .second, .val (.long (dg (NN px) 10000000)), .second, .unset, .unset, .unset, .unset, .unset, .unset, .unset, .unset, .unset, .unset, .unset, .unset, .unset, .unset, .unset, .unset] [(.long (1000000 : Int64)), (.long (NN px))])) t_
    refine XS.ldiv X0.here hx rfl (hb hby at_23) rfl (by decide) ?_
    show Steps p.tables e below (s₁.setTop (mkF m 24 #[.val (.int px), .val (.long (NN px)), .second, .val (.long (dg (NN px) 10000000)), .second, .unset, .unset, .unset, .unset, .unset, .unset, .unset, .unset, .unset, .unset, .unset, .unset, .unset, .unset, .unset, .unset] [(.long ((NN px) / (1000000 : Int64)))])) t_
    refine X0.ldc2Long hx hown (mvT hZ (hw _ (List.mem_of_getElem? (i := 3) rfl))) (g := (mkF m 24 #[.val (.int px), .val (.long (NN px)), .second, .val (.long (dg (NN px) 10000000)), .second, .unset, .unset, .unset, .unset, .unset, .unset, .unset, .unset, .unset, .unset, .unset, .unset, .unset, .unset, .unset, .unset] [(.long ((NN px) / (1000000 : Int64)))])) rfl (hb hby at_24) _ ?_
    show Steps p.tables e below (s₁.setTop (mkF m 27 #[.val (.int px), .val (.long (NN px)), .second, .val (.long (dg (NN px) 10000000)), .second, .unset, .unset, .unset, .unset, .unset, .unset, .unset, .unset, .unset, .unset, .unset, .unset, .unset, .unset, .unset, .unset] [(.long (10 : Int64)), (.long ((NN px) / (1000000 : Int64)))])) t_
    refine XS.lrem X0.here hx rfl (hb hby at_27) rfl (by decide) ?_
    show Steps p.tables e below (s₁.setTop (mkF m 28 #[.val (.int px), .val (.long (NN px)), .second, .val (.long (dg (NN px) 10000000)), .second, .unset, .unset, .unset, .unset, .unset, .unset, .unset, .unset, .unset, .unset, .unset, .unset, .unset, .unset, .unset, .unset] [(.long (((NN px) / (1000000 : Int64)) - (((NN px) / (1000000 : Int64)) / (10 : Int64)) * (10 : Int64)))])) t_
    refine XS.lstore X0.here hx rfl (hb hby at_28) rfl (l' := #[.val (.int px), .val (.long (NN px)), .second, .val (.long (dg (NN px) 10000000)), .second, .val (.long (((NN px) / (1000000 : Int64)) - (((NN px) / (1000000 : Int64)) / (10 : Int64)) * (10 : Int64))), .second, .unset, .unset, .unset, .unset, .unset, .unset, .unset, .unset, .unset, .unset, .unset, .unset, .unset, .unset]) rfl ?_
    show Steps p.tables e below (s₁.setTop (mkF m 30 #[.val (.int px), .val (.long (NN px)), .second, .val (.long (dg (NN px) 10000000)), .second, .val (.long (((NN px) / (1000000 : Int64)) - (((NN px) / (1000000 : Int64)) / (10 : Int64)) * (10 : Int64))), .second, .unset, .unset, .unset, .unset, .unset, .unset, .unset, .unset, .unset, .unset, .unset, .unset, .unset, .unset] [])) t_
    exact k_
  show Go p.tables e below _ (s₁.setTop (mkF m 30 #[.val (.int px), .val (.long (NN px)), .second, .val (.long (dg (NN px) 10000000)), .second, .val (.long (dg (NN px) 1000000)), .second, .unset, .unset, .unset, .unset, .unset, .unset, .unset, .unset, .unset, .unset, .unset, .unset, .unset, .unset] []))
  refine Go.via (B := s₁.setTop (mkF m 41 #[.val (.int px), .val (.long (NN px)), .second, .val (.long (dg (NN px) 10000000)), .second, .val (.long (dg (NN px) 1000000)), .second, .val (.long (((NN px) / (100000 : Int64)) - (((NN px) / (100000 : Int64)) / (10 : Int64)) * (10 : Int64))), .second, .unset, .unset, .unset, .unset, .unset, .unset, .unset, .unset, .unset, .unset, .unset, .unset] [])) (fun t_ k_ => ?_) ?_
  · show Steps p.tables e below (s₁.setTop (mkF m 30 #[.val (.int px), .val (.long (NN px)), .second, .val (.long (dg (NN px) 10000000)), .second, .val (.long (dg (NN px) 1000000)), .second, .unset, .unset, .unset, .unset, .unset, .unset, .unset, .unset, .unset, .unset, .unset, .unset, .unset, .unset] [])) t_
    refine XS.lloadN X0.here hx rfl (hb hby at_30) rfl ?_
    show Steps p.tables e below (s₁.setTop (mkF m 31 #[.val (.int px), .val (.long (NN px)), .second, .val (.long (dg (NN px) 10000000)), .second, .val (.long (dg (NN px) 1000000)), .second, .unset, .unset, .unset, .unset, .unset, .unset, .unset, .unset, .unset, .unset, .unset, .unset, .unset, .unset] [(.long (NN px))])) t_
    refine X0.ldc2Long hx hown (mvT hZ (hw _ (List.mem_of_getElem? (i := 5) rfl))) (g := (mkF m 31 #[.val (.int px), .val (.long (NN px)), .second, .val (.long (dg (NN px) 10000000)), .second, .val (.long (dg (NN px) 1000000)), .second, .unset, .unset, .unset, .unset, .unset, .unset, .unset, .unset, .unset, .unset, .unset, .unset, .unset, .unset] [(.long (NN px))])) rfl (hb hby at_31) _ ?_
    show Steps p.tables e below (s₁.setTop (mkF m 34 #[.val (.int px), .val (.long (NN px)), .second, .val (.long (dg (NN px) 10000000)), .second, .val (.long (dg (NN px) 1000000)), .second, .unset, .unset, .unset, .unset, .unset, .unset, .unset, .unset, .unset, .unset, .unset, .unset, .unset, .unset] [(.long (100000 : Int64)), (.long (NN px))])) t_
    refine XS.ldiv X0.here hx rfl (hb hby at_34) rfl (by decide) ?_
    show Steps p.tables e below (s₁.setTop (mkF m 35 #[.val (.int px), .val (.long (NN px)), .second, .val (.long (dg (NN px) 10000000)), .second, .val (.long (dg (NN px) 1000000)), .second, .unset, .unset, .unset, .unset, .unset, .unset, .unset, .unset, .unset, .unset, .unset, .unset, .unset, .unset] [(.long ((NN px) / (100000 : Int64)))])) t_
    refine X0.ldc2Long hx hown (mvT hZ (hw _ (List.mem_of_getElem? (i := 3) rfl))) (g := (mkF m 35 #[.val (.int px), .val (.long (NN px)), .second, .val (.long (dg (NN px) 10000000)), .second, .val (.long (dg (NN px) 1000000)), .second, .unset, .unset, .unset, .unset, .unset, .unset, .unset, .unset, .unset, .unset, .unset, .unset, .unset, .unset] [(.long ((NN px) / (100000 : Int64)))])) rfl (hb hby at_35) _ ?_
    show Steps p.tables e below (s₁.setTop (mkF m 38 #[.val (.int px), .val (.long (NN px)), .second, .val (.long (dg (NN px) 10000000)), .second, .val (.long (dg (NN px) 1000000)), .second, .unset, .unset, .unset, .unset, .unset, .unset, .unset, .unset, .unset, .unset, .unset, .unset, .unset, .unset] [(.long (10 : Int64)), (.long ((NN px) / (100000 : Int64)))])) t_
    refine XS.lrem X0.here hx rfl (hb hby at_38) rfl (by decide) ?_
    show Steps p.tables e below (s₁.setTop (mkF m 39 #[.val (.int px), .val (.long (NN px)), .second, .val (.long (dg (NN px) 10000000)), .second, .val (.long (dg (NN px) 1000000)), .second, .unset, .unset, .unset, .unset, .unset, .unset, .unset, .unset, .unset, .unset, .unset, .unset, .unset, .unset] [(.long (((NN px) / (100000 : Int64)) - (((NN px) / (100000 : Int64)) / (10 : Int64)) * (10 : Int64)))])) t_
    refine XS.lstore X0.here hx rfl (hb hby at_39) rfl (l' := #[.val (.int px), .val (.long (NN px)), .second, .val (.long (dg (NN px) 10000000)), .second, .val (.long (dg (NN px) 1000000)), .second, .val (.long (((NN px) / (100000 : Int64)) - (((NN px) / (100000 : Int64)) / (10 : Int64)) * (10 : Int64))), .second, .unset, .unset, .unset, .unset, .unset, .unset, .unset, .unset, .unset, .unset, .unset, .unset]) rfl ?_
    show Steps p.tables e below (s₁.setTop (mkF m 41 #[.val (.int px), .val (.long (NN px)), .second, .val (.long (dg (NN px) 10000000)), .second, .val (.long (dg (NN px) 1000000)), .second, .val (.long (((NN px) / (100000 : Int64)) - (((NN px) / (100000 : Int64)) / (10 : Int64)) * (10 : Int64))), .second, .unset, .unset, .unset, .unset, .unset, .unset, .unset, .unset, .unset, .unset, .unset, .unset] [])) t_
    exact k_
  show Go p.tables e below _ (s₁.setTop (mkF m 41 #[.val (.int px), .val (.long (NN px)), .second, .val (.long (dg (NN px) 10000000)), .second, .val (.long (dg (NN px) 1000000)), .second, .val (.long (dg (NN px) 100000)), .second, .unset, .unset, .unset, .unset, .unset, .unset, .unset, .unset, .unset, .unset, .unset, .unset] []))
  refine Go.via (B := s₁.setTop (mkF m 52 #[.val (.int px), .val (.long (NN px)), .second, .val (.long (dg (NN px) 10000000)), .second, .val (.long (dg (NN px) 1000000)), .second, .val (.long (dg (NN px) 100000)), .second, .val (.long (((NN px) / (10000 : Int64)) - (((NN px) / (10000 : Int64)) / (10 : Int64)) * (10 : Int64))), .second, .unset, .unset, .unset, .unset, .unset, .unset, .unset, .unset, .unset, .unset] [])) (fun t_ k_ => ?_) ?_
  · show Steps p.tables e below (s₁.setTop (mkF m 41 #[.val (.int px), .val (.long (NN px)), .second, .val (.long (dg (NN px) 10000000)), .second, .val (.long (dg (NN px) 1000000)), .second, .val (.long (dg (NN px) 100000)), .second, .unset, .unset, .unset, .unset, .unset, .unset, .unset, .unset, .unset, .unset, .unset, .unset] [])) t_
    refine XS.lloadN X0.here hx rfl (hb hby at_41) rfl ?_
    show Steps p.tables e below (s₁.setTop (mkF m 42 #[.val (.int px), .val (.long (NN px)), .second, .val (.long (dg (NN px) 10000000)), .second, .val (.long (dg (NN px) 1000000)), .second, .val (.long (dg (NN px) 100000)), .second, .unset, .unset, .unset, .unset, .unset, .unset, .unset, .unset, .unset, .unset, .unset, .unset] [(.long (NN px))])) t_
    refine X0.ldc2Long hx hown (mvT hZ (hw _ (List.mem_of_getElem? (i := 6) rfl))) (g := (mkF m 42 #[.val (.int px), .val (.long (NN px)), .second, .val (.long (dg (NN px) 10000000)), .second, .val (.long (dg (NN px) 1000000)), .second, .val (.long (dg (NN px) 100000)), .second, .unset, .unset, .unset, .unset, .unset, .unset, .unset, .unset, .unset, .unset, .unset, .unset] [(.long (NN px))])) rfl (hb hby at_42) _ ?_
    show Steps p.tables e below (s₁.setTop (mkF m 45 #[.val (.int px), .val (.long (NN px)), .second, .val (.long (dg (NN px) 10000000)), .second, .val (.long (dg (NN px) 1000000)), .second, .val (.long (dg (NN px) 100000)), .second, .unset, .unset, .unset, .unset, .unset, .unset, .unset, .unset, .unset, .unset, .unset, .unset] [(.long (10000 : Int64)), (.long (NN px))])) t_
    refine XS.ldiv X0.here hx rfl (hb hby at_45) rfl (by decide) ?_
    show Steps p.tables e below (s₁.setTop (mkF m 46 #[.val (.int px), .val (.long (NN px)), .second, .val (.long (dg (NN px) 10000000)), .second, .val (.long (dg (NN px) 1000000)), .second, .val (.long (dg (NN px) 100000)), .second, .unset, .unset, .unset, .unset, .unset, .unset, .unset, .unset, .unset, .unset, .unset, .unset] [(.long ((NN px) / (10000 : Int64)))])) t_
    refine X0.ldc2Long hx hown (mvT hZ (hw _ (List.mem_of_getElem? (i := 3) rfl))) (g := (mkF m 46 #[.val (.int px), .val (.long (NN px)), .second, .val (.long (dg (NN px) 10000000)), .second, .val (.long (dg (NN px) 1000000)), .second, .val (.long (dg (NN px) 100000)), .second, .unset, .unset, .unset, .unset, .unset, .unset, .unset, .unset, .unset, .unset, .unset, .unset] [(.long ((NN px) / (10000 : Int64)))])) rfl (hb hby at_46) _ ?_
    show Steps p.tables e below (s₁.setTop (mkF m 49 #[.val (.int px), .val (.long (NN px)), .second, .val (.long (dg (NN px) 10000000)), .second, .val (.long (dg (NN px) 1000000)), .second, .val (.long (dg (NN px) 100000)), .second, .unset, .unset, .unset, .unset, .unset, .unset, .unset, .unset, .unset, .unset, .unset, .unset] [(.long (10 : Int64)), (.long ((NN px) / (10000 : Int64)))])) t_
    refine XS.lrem X0.here hx rfl (hb hby at_49) rfl (by decide) ?_
    show Steps p.tables e below (s₁.setTop (mkF m 50 #[.val (.int px), .val (.long (NN px)), .second, .val (.long (dg (NN px) 10000000)), .second, .val (.long (dg (NN px) 1000000)), .second, .val (.long (dg (NN px) 100000)), .second, .unset, .unset, .unset, .unset, .unset, .unset, .unset, .unset, .unset, .unset, .unset, .unset] [(.long (((NN px) / (10000 : Int64)) - (((NN px) / (10000 : Int64)) / (10 : Int64)) * (10 : Int64)))])) t_
    refine XS.lstore X0.here hx rfl (hb hby at_50) rfl (l' := #[.val (.int px), .val (.long (NN px)), .second, .val (.long (dg (NN px) 10000000)), .second, .val (.long (dg (NN px) 1000000)), .second, .val (.long (dg (NN px) 100000)), .second, .val (.long (((NN px) / (10000 : Int64)) - (((NN px) / (10000 : Int64)) / (10 : Int64)) * (10 : Int64))), .second, .unset, .unset, .unset, .unset, .unset, .unset, .unset, .unset, .unset, .unset]) rfl ?_
    show Steps p.tables e below (s₁.setTop (mkF m 52 #[.val (.int px), .val (.long (NN px)), .second, .val (.long (dg (NN px) 10000000)), .second, .val (.long (dg (NN px) 1000000)), .second, .val (.long (dg (NN px) 100000)), .second, .val (.long (((NN px) / (10000 : Int64)) - (((NN px) / (10000 : Int64)) / (10 : Int64)) * (10 : Int64))), .second, .unset, .unset, .unset, .unset, .unset, .unset, .unset, .unset, .unset, .unset] [])) t_
    exact k_
  show Go p.tables e below _ (s₁.setTop (mkF m 52 #[.val (.int px), .val (.long (NN px)), .second, .val (.long (dg (NN px) 10000000)), .second, .val (.long (dg (NN px) 1000000)), .second, .val (.long (dg (NN px) 100000)), .second, .val (.long (dg (NN px) 10000)), .second, .unset, .unset, .unset, .unset, .unset, .unset, .unset, .unset, .unset, .unset] []))
  refine Go.via (B := s₁.setTop (mkF m 63 #[.val (.int px), .val (.long (NN px)), .second, .val (.long (dg (NN px) 10000000)), .second, .val (.long (dg (NN px) 1000000)), .second, .val (.long (dg (NN px) 100000)), .second, .val (.long (dg (NN px) 10000)), .second, .val (.long (((NN px) / (1000 : Int64)) - (((NN px) / (1000 : Int64)) / (10 : Int64)) * (10 : Int64))), .second, .unset, .unset, .unset, .unset, .unset, .unset, .unset, .unset] [])) (fun t_ k_ => ?_) ?_
  · show Steps p.tables e below (s₁.setTop (mkF m 52 #[.val (.int px), .val (.long (NN px)), .second, .val (.long (dg (NN px) 10000000)), .second, .val (.long (dg (NN px) 1000000)), .second, .val (.long (dg (NN px) 100000)), .second, .val (.long (dg (NN px) 10000)), .second, .unset, .unset, .unset, .unset, .unset, .unset, .unset, .unset, .unset, .unset] [])) t_
    refine XS.lloadN X0.here hx rfl (hb hby at_52) rfl ?_
    show Steps p.tables e below (s₁.setTop (mkF m 53 #[.val (.int px), .val (.long (NN px)), .second, .val (.long (dg (NN px) 10000000)), .second, .val (.long (dg (NN px) 1000000)), .second, .val (.long (dg (NN px) 100000)), .second, .val (.long (dg (NN px) 10000)), .second, .unset, .unset, .unset, .unset, .unset, .unset, .unset, .unset, .unset, .unset] [(.long (NN px))])) t_
    refine X0.ldc2Long hx hown (mvT hZ (hw _ (List.mem_of_getElem? (i := 7) rfl))) (g := (mkF m 53 #[.val (.int px), .val (.long (NN px)), .second, .val (.long (dg (NN px) 10000000)), .second, .val (.long (dg (NN px) 1000000)), .second, .val (.long (dg (NN px) 100000)), .second, .val (.long (dg (NN px) 10000)), .second, .unset, .unset, .unset, .unset, .unset, .unset, .unset, .unset, .unset, .unset] [(.long (NN px))])) rfl (hb hby at_53) _ ?_
    show Steps p.tables e below (s₁.setTop (mkF m 56 #[.val (.int px), .val (.long (NN px)), .second, .val (.long (dg (NN px) 10000000)), .second, .val (.long (dg (NN px) 1000000)), .second, .val (.long (dg (NN px) 100000)), .second, .val (.long (dg (NN px) 10000)), .second, .unset, .unset, .unset, .unset, .unset, .unset, .unset, .unset, .unset, .unset] [(.long (1000 : Int64)), (.long (NN px))])) t_
    refine XS.ldiv X0.here hx rfl (hb hby at_56) rfl (by decide) ?_
    show Steps p.tables e below (s₁.setTop (mkF m 57 #[.val (.int px), .val (.long (NN px)), .second, .val (.long (dg (NN px) 10000000)), .second, .val (.long (dg (NN px) 1000000)), .second, .val (.long (dg (NN px) 100000)), .second, .val (.long (dg (NN px) 10000)), .second, .unset, .unset, .unset, .unset, .unset, .unset, .unset, .unset, .unset, .unset] [(.long ((NN px) / (1000 : Int64)))])) t_
    refine X0.ldc2Long hx hown (mvT hZ (hw _ (List.mem_of_getElem? (i := 3) rfl))) (g := (mkF m 57 #[.val (.int px), .val (.long (NN px)), .second, .val (.long (dg (NN px) 10000000)), .second, .val (.long (dg (NN px) 1000000)), .second, .val (.long (dg (NN px) 100000)), .second, .val (.long (dg (NN px) 10000)), .second, .unset, .unset, .unset, .unset, .unset, .unset, .unset, .unset, .unset, .unset] [(.long ((NN px) / (1000 : Int64)))])) rfl (hb hby at_57) _ ?_
    show Steps p.tables e below (s₁.setTop (mkF m 60 #[.val (.int px), .val (.long (NN px)), .second, .val (.long (dg (NN px) 10000000)), .second, .val (.long (dg (NN px) 1000000)), .second, .val (.long (dg (NN px) 100000)), .second, .val (.long (dg (NN px) 10000)), .second, .unset, .unset, .unset, .unset, .unset, .unset, .unset, .unset, .unset, .unset] [(.long (10 : Int64)), (.long ((NN px) / (1000 : Int64)))])) t_
    refine XS.lrem X0.here hx rfl (hb hby at_60) rfl (by decide) ?_
    show Steps p.tables e below (s₁.setTop (mkF m 61 #[.val (.int px), .val (.long (NN px)), .second, .val (.long (dg (NN px) 10000000)), .second, .val (.long (dg (NN px) 1000000)), .second, .val (.long (dg (NN px) 100000)), .second, .val (.long (dg (NN px) 10000)), .second, .unset, .unset, .unset, .unset, .unset, .unset, .unset, .unset, .unset, .unset] [(.long (((NN px) / (1000 : Int64)) - (((NN px) / (1000 : Int64)) / (10 : Int64)) * (10 : Int64)))])) t_
    refine XS.lstore X0.here hx rfl (hb hby at_61) rfl (l' := #[.val (.int px), .val (.long (NN px)), .second, .val (.long (dg (NN px) 10000000)), .second, .val (.long (dg (NN px) 1000000)), .second, .val (.long (dg (NN px) 100000)), .second, .val (.long (dg (NN px) 10000)), .second, .val (.long (((NN px) / (1000 : Int64)) - (((NN px) / (1000 : Int64)) / (10 : Int64)) * (10 : Int64))), .second, .unset, .unset, .unset, .unset, .unset, .unset, .unset, .unset]) rfl ?_
    show Steps p.tables e below (s₁.setTop (mkF m 63 #[.val (.int px), .val (.long (NN px)), .second, .val (.long (dg (NN px) 10000000)), .second, .val (.long (dg (NN px) 1000000)), .second, .val (.long (dg (NN px) 100000)), .second, .val (.long (dg (NN px) 10000)), .second, .val (.long (((NN px) / (1000 : Int64)) - (((NN px) / (1000 : Int64)) / (10 : Int64)) * (10 : Int64))), .second, .unset, .unset, .unset, .unset, .unset, .unset, .unset, .unset] [])) t_
    exact k_
  show Go p.tables e below _ (s₁.setTop (mkF m 63 #[.val (.int px), .val (.long (NN px)), .second, .val (.long (dg (NN px) 10000000)), .second, .val (.long (dg (NN px) 1000000)), .second, .val (.long (dg (NN px) 100000)), .second, .val (.long (dg (NN px) 10000)), .second, .val (.long (dg (NN px) 1000)), .second, .unset, .unset, .unset, .unset, .unset, .unset, .unset, .unset] []))
  refine Go.via (B := s₁.setTop (mkF m 74 #[.val (.int px), .val (.long (NN px)), .second, .val (.long (dg (NN px) 10000000)), .second, .val (.long (dg (NN px) 1000000)), .second, .val (.long (dg (NN px) 100000)), .second, .val (.long (dg (NN px) 10000)), .second, .val (.long (dg (NN px) 1000)), .second, .val (.long (((NN px) / (100 : Int64)) - (((NN px) / (100 : Int64)) / (10 : Int64)) * (10 : Int64))), .second, .unset, .unset, .unset, .unset, .unset, .unset] [])) (fun t_ k_ => ?_) ?_
  · show Steps p.tables e below (s₁.setTop (mkF m 63 #[.val (.int px), .val (.long (NN px)), .second, .val (.long (dg (NN px) 10000000)), .second, .val (.long (dg (NN px) 1000000)), .second, .val (.long (dg (NN px) 100000)), .second, .val (.long (dg (NN px) 10000)), .second, .val (.long (dg (NN px) 1000)), .second, .unset, .unset, .unset, .unset, .unset, .unset, .unset, .unset] [])) t_
    refine XS.lloadN X0.here hx rfl (hb hby at_63) rfl ?_
    show Steps p.tables e below (s₁.setTop (mkF m 64 #[.val (.int px), .val (.long (NN px)), .second, .val (.long (dg (NN px) 10000000)), .second, .val (.long (dg (NN px) 1000000)), .second, .val (.long (dg (NN px) 100000)), .second, .val (.long (dg (NN px) 10000)), .second, .val (.long (dg (NN px) 1000)), .second, .unset, .unset, .unset, .unset, .unset, .unset, .unset, .unset] [(.long (NN px))])) t_
    refine X0.ldc2Long hx hown (mvT hZ (hw _ (List.mem_of_getElem? (i := 8) rfl))) (g := (mkF m 64 #[.val (.int px), .val (.long (NN px)), .second, .val (.long (dg (NN px) 10000000)), .second, .val (.long (dg (NN px) 1000000)), .second, .val (.long (dg (NN px) 100000)), .second, .val (.long (dg (NN px) 10000)), .second, .val (.long (dg (NN px) 1000)), .second, .unset, .unset, .unset, .unset, .unset, .unset, .unset, .unset] [(.long (NN px))])) rfl (hb hby at_64) _ ?_
    show Steps p.tables e below (s₁.setTop (mkF m 67 #[.val (.int px), .val (.long (NN px)), .second, .val (.long (dg (NN px) 10000000)), .second, .val (.long (dg (NN px) 1000000)), .second, .val (.long (dg (NN px) 100000)), .second, .val (.long (dg (NN px) 10000)), .second, .val (.long (dg (NN px) 1000)), .second, .unset, .unset, .unset, .unset, .unset, .unset, .unset, .unset] [(.long (100 : Int64)), (.long (NN px))])) t_
    refine XS.ldiv X0.here hx rfl (hb hby at_67) rfl (by decide) ?_
    show Steps p.tables e below (s₁.setTop (mkF m 68 #[.val (.int px), .val (.long (NN px)), .second, .val (.long (dg (NN px) 10000000)), .second, .val (.long (dg (NN px) 1000000)), .second, .val (.long (dg (NN px) 100000)), .second, .val (.long (dg (NN px) 10000)), .second, .val (.long (dg (NN px) 1000)), .second, .unset, .unset, .unset, .unset, .unset, .unset, .unset, .unset] [(.long ((NN px) / (100 : Int64)))])) t_
    refine X0.ldc2Long hx hown (mvT hZ (hw _ (List.mem_of_getElem? (i := 3) rfl))) (g := (mkF m 68 #[.val (.int px), .val (.long (NN px)), .second, .val (.long (dg (NN px) 10000000)), .second, .val (.long (dg (NN px) 1000000)), .second, .val (.long (dg (NN px) 100000)), .second, .val (.long (dg (NN px) 10000)), .second, .val (.long (dg (NN px) 1000)), .second, .unset, .unset, .unset, .unset, .unset, .unset, .unset, .unset] [(.long ((NN px) / (100 : Int64)))])) rfl (hb hby at_68) _ ?_
    show Steps p.tables e below (s₁.setTop (mkF m 71 #[.val (.int px), .val (.long (NN px)), .second, .val (.long (dg (NN px) 10000000)), .second, .val (.long (dg (NN px) 1000000)), .second, .val (.long (dg (NN px) 100000)), .second, .val (.long (dg (NN px) 10000)), .second, .val (.long (dg (NN px) 1000)), .second, .unset, .unset, .unset, .unset, .unset, .unset, .unset, .unset] [(.long (10 : Int64)), (.long ((NN px) / (100 : Int64)))])) t_
    refine XS.lrem X0.here hx rfl (hb hby at_71) rfl (by decide) ?_
    show Steps p.tables e below (s₁.setTop (mkF m 72 #[.val (.int px), .val (.long (NN px)), .second, .val (.long (dg (NN px) 10000000)), .second, .val (.long (dg (NN px) 1000000)), .second, .val (.long (dg (NN px) 100000)), .second, .val (.long (dg (NN px) 10000)), .second, .val (.long (dg (NN px) 1000)), .second, .unset, .unset, .unset, .unset, .unset, .unset, .unset, .unset] [(.long (((NN px) / (100 : Int64)) - (((NN px) / (100 : Int64)) / (10 : Int64)) * (10 : Int64)))])) t_
    refine XS.lstore X0.here hx rfl (hb hby at_72) rfl (l' := #[.val (.int px), .val (.long (NN px)), .second, .val (.long (dg (NN px) 10000000)), .second, .val (.long (dg (NN px) 1000000)), .second, .val (.long (dg (NN px) 100000)), .second, .val (.long (dg (NN px) 10000)), .second, .val (.long (dg (NN px) 1000)), .second, .val (.long (((NN px) / (100 : Int64)) - (((NN px) / (100 : Int64)) / (10 : Int64)) * (10 : Int64))), .second, .unset, .unset, .unset, .unset, .unset, .unset]) rfl ?_
    show Steps p.tables e below (s₁.setTop (mkF m 74 #[.val (.int px), .val (.long (NN px)), .second, .val (.long (dg (NN px) 10000000)), .second, .val (.long (dg (NN px) 1000000)), .second, .val (.long (dg (NN px) 100000)), .second, .val (.long (dg (NN px) 10000)), .second, .val (.long (dg (NN px) 1000)), .second, .val (.long (((NN px) / (100 : Int64)) - (((NN px) / (100 : Int64)) / (10 : Int64)) * (10 : Int64))), .second, .unset, .unset, .unset, .unset, .unset, .unset] [])) t_
    exact k_
  show Go p.tables e below _ (s₁.setTop (mkF m 74 #[.val (.int px), .val (.long (NN px)), .second, .val (.long (dg (NN px) 10000000)), .second, .val (.long (dg (NN px) 1000000)), .second, .val (.long (dg (NN px) 100000)), .second, .val (.long (dg (NN px) 10000)), .second, .val (.long (dg (NN px) 1000)), .second, .val (.long (dg (NN px) 100)), .second, .unset, .unset, .unset, .unset, .unset, .unset] []))
  refine Go.via (B := s₁.setTop (mkF m 85 #[.val (.int px), .val (.long (NN px)), .second, .val (.long (dg (NN px) 10000000)), .second, .val (.long (dg (NN px) 1000000)), .second, .val (.long (dg (NN px) 100000)), .second, .val (.long (dg (NN px) 10000)), .second, .val (.long (dg (NN px) 1000)), .second, .val (.long (dg (NN px) 100)), .second, .val (.long (((NN px) / (10 : Int64)) - (((NN px) / (10 : Int64)) / (10 : Int64)) * (10 : Int64))), .second, .unset, .unset, .unset, .unset] [])) (fun t_ k_ => ?_) ?_
  · show Steps p.tables e below (s₁.setTop (mkF m 74 #[.val (.int px), .val (.long (NN px)), .second, .val (.long (dg (NN px) 10000000)), .second, .val (.long (dg (NN px) 1000000)), .second, .val (.long (dg (NN px) 100000)), .second, .val (.long (dg (NN px) 10000)), .second, .val (.long (dg (NN px) 1000)), .second, .val (.long (dg (NN px) 100)), .second, .unset, .unset, .unset, .unset, .unset, .unset] [])) t_
    refine XS.lloadN X0.here hx rfl (hb hby at_74) rfl ?_
    show Steps p.tables e below (s₁.setTop (mkF m 75 #[.val (.int px), .val (.long (NN px)), .second, .val (.long (dg (NN px) 10000000)), .second, .val (.long (dg (NN px) 1000000)), .second, .val (.long (dg (NN px) 100000)), .second, .val (.long (dg (NN px) 10000)), .second, .val (.long (dg (NN px) 1000)), .second, .val (.long (dg (NN px) 100)), .second, .unset, .unset, .unset, .unset, .unset, .unset] [(.long (NN px))])) t_
    refine X0.ldc2Long hx hown (mvT hZ (hw _ (List.mem_of_getElem? (i := 3) rfl))) (g := (mkF m 75 #[.val (.int px), .val (.long (NN px)), .second, .val (.long (dg (NN px) 10000000)), .second, .val (.long (dg (NN px) 1000000)), .second, .val (.long (dg (NN px) 100000)), .second, .val (.long (dg (NN px) 10000)), .second, .val (.long (dg (NN px) 1000)), .second, .val (.long (dg (NN px) 100)), .second, .unset, .unset, .unset, .unset, .unset, .unset] [(.long (NN px))])) rfl (hb hby at_75) _ ?_
    show Steps p.tables e below (s₁.setTop (mkF m 78 #[.val (.int px), .val (.long (NN px)), .second, .val (.long (dg (NN px) 10000000)), .second, .val (.long (dg (NN px) 1000000)), .second, .val (.long (dg (NN px) 100000)), .second, .val (.long (dg (NN px) 10000)), .second, .val (.long (dg (NN px) 1000)), .second, .val (.long (dg (NN px) 100)), .second, .unset, .unset, .unset, .unset, .unset, .unset] [(.long (10 : Int64)), (.long (NN px))])) t_
    refine XS.ldiv X0.here hx rfl (hb hby at_78) rfl (by decide) ?_
    show Steps p.tables e below (s₁.setTop (mkF m 79 #[.val (.int px), .val (.long (NN px)), .second, .val (.long (dg (NN px) 10000000)), .second, .val (.long (dg (NN px) 1000000)), .second, .val (.long (dg (NN px) 100000)), .second, .val (.long (dg (NN px) 10000)), .second, .val (.long (dg (NN px) 1000)), .second, .val (.long (dg (NN px) 100)), .second, .unset, .unset, .unset, .unset, .unset, .unset] [(.long ((NN px) / (10 : Int64)))])) t_
    refine X0.ldc2Long hx hown (mvT hZ (hw _ (List.mem_of_getElem? (i := 3) rfl))) (g := (mkF m 79 #[.val (.int px), .val (.long (NN px)), .second, .val (.long (dg (NN px) 10000000)), .second, .val (.long (dg (NN px) 1000000)), .second, .val (.long (dg (NN px) 100000)), .second, .val (.long (dg (NN px) 10000)), .second, .val (.long (dg (NN px) 1000)), .second, .val (.long (dg (NN px) 100)), .second, .unset, .unset, .unset, .unset, .unset, .unset] [(.long ((NN px) / (10 : Int64)))])) rfl (hb hby at_79) _ ?_
    show Steps p.tables e below (s₁.setTop (mkF m 82 #[.val (.int px), .val (.long (NN px)), .second, .val (.long (dg (NN px) 10000000)), .second, .val (.long (dg (NN px) 1000000)), .second, .val (.long (dg (NN px) 100000)), .second, .val (.long (dg (NN px) 10000)), .second, .val (.long (dg (NN px) 1000)), .second, .val (.long (dg (NN px) 100)), .second, .unset, .unset, .unset, .unset, .unset, .unset] [(.long (10 : Int64)), (.long ((NN px) / (10 : Int64)))])) t_
    refine XS.lrem X0.here hx rfl (hb hby at_82) rfl (by decide) ?_
    show Steps p.tables e below (s₁.setTop (mkF m 83 #[.val (.int px), .val (.long (NN px)), .second, .val (.long (dg (NN px) 10000000)), .second, .val (.long (dg (NN px) 1000000)), .second, .val (.long (dg (NN px) 100000)), .second, .val (.long (dg (NN px) 10000)), .second, .val (.long (dg (NN px) 1000)), .second, .val (.long (dg (NN px) 100)), .second, .unset, .unset, .unset, .unset, .unset, .unset] [(.long (((NN px) / (10 : Int64)) - (((NN px) / (10 : Int64)) / (10 : Int64)) * (10 : Int64)))])) t_
    refine XS.lstore X0.here hx rfl (hb hby at_83) rfl (l' := #[.val (.int px), .val (.long (NN px)), .second, .val (.long (dg (NN px) 10000000)), .second, .val (.long (dg (NN px) 1000000)), .second, .val (.long (dg (NN px) 100000)), .second, .val (.long (dg (NN px) 10000)), .second, .val (.long (dg (NN px) 1000)), .second, .val (.long (dg (NN px) 100)), .second, .val (.long (((NN px) / (10 : Int64)) - (((NN px) / (10 : Int64)) / (10 : Int64)) * (10 : Int64))), .second, .unset, .unset, .unset, .unset]) rfl ?_
    show Steps p.tables e below (s₁.setTop (mkF m 85 #[.val (.int px), .val (.long (NN px)), .second, .val (.long (dg (NN px) 10000000)), .second, .val (.long (dg (NN px) 1000000)), .second, .val (.long (dg (NN px) 100000)), .second, .val (.long (dg (NN px) 10000)), .second, .val (.long (dg (NN px) 1000)), .second, .val (.long (dg (NN px) 100)), .second, .val (.long (((NN px) / (10 : Int64)) - (((NN px) / (10 : Int64)) / (10 : Int64)) * (10 : Int64))), .second, .unset, .unset, .unset, .unset] [])) t_
    exact k_
  show Go p.tables e below _ (s₁.setTop (mkF m 85 #[.val (.int px), .val (.long (NN px)), .second, .val (.long (dg (NN px) 10000000)), .second, .val (.long (dg (NN px) 1000000)), .second, .val (.long (dg (NN px) 100000)), .second, .val (.long (dg (NN px) 10000)), .second, .val (.long (dg (NN px) 1000)), .second, .val (.long (dg (NN px) 100)), .second, .val (.long (dg (NN px) 10)), .second, .unset, .unset, .unset, .unset] []))
  refine Go.via (B := s₁.setTop (mkF m 92 #[.val (.int px), .val (.long (NN px)), .second, .val (.long (dg (NN px) 10000000)), .second, .val (.long (dg (NN px) 1000000)), .second, .val (.long (dg (NN px) 100000)), .second, .val (.long (dg (NN px) 10000)), .second, .val (.long (dg (NN px) 1000)), .second, .val (.long (dg (NN px) 100)), .second, .val (.long (dg (NN px) 10)), .second, .val (.long ((NN px) - ((NN px) / (10 : Int64)) * (10 : Int64))), .second, .unset, .unset] [])) (fun t_ k_ => ?_) ?_
  · show Steps p.tables e below (s₁.setTop (mkF m 85 #[.val (.int px), .val (.long (NN px)), .second, .val (.long (dg (NN px) 10000000)), .second, .val (.long (dg (NN px) 1000000)), .second, .val (.long (dg (NN px) 100000)), .second, .val (.long (dg (NN px) 10000)), .second, .val (.long (dg (NN px) 1000)), .second, .val (.long (dg (NN px) 100)), .second, .val (.long (dg (NN px) 10)), .second, .unset, .unset, .unset, .unset] [])) t_
    refine XS.lloadN X0.here hx rfl (hb hby at_85) rfl ?_
    show Steps p.tables e below (s₁.setTop (mkF m 86 #[.val (.int px), .val (.long (NN px)), .second, .val (.long (dg (NN px) 10000000)), .second, .val (.long (dg (NN px) 1000000)), .second, .val (.long (dg (NN px) 100000)), .second, .val (.long (dg (NN px) 10000)), .second, .val (.long (dg (NN px) 1000)), .second, .val (.long (dg (NN px) 100)), .second, .val (.long (dg (NN px) 10)), .second, .unset, .unset, .unset, .unset] [(.long (NN px))])) t_
    refine X0.ldc2Long hx hown (mvT hZ (hw _ (List.mem_of_getElem? (i := 3) rfl))) (g := (mkF m 86 #[.val (.int px), .val (.long (NN px)), .second, .val (.long (dg (NN px) 10000000)), .second, .val (.long (dg (NN px) 1000000)), .second, .val (.long (dg (NN px) 100000)), .second, .val (.long (dg (NN px) 10000)), .second, .val (.long (dg (NN px) 1000)), .second, .val (.long (dg (NN px) 100)), .second, .val (.long (dg (NN px) 10)), .second, .unset, .unset, .unset, .unset] [(.long (NN px))])) rfl (hb hby at_86) _ ?_
    show Steps p.tables e below (s₁.setTop (mkF m 89 #[.val (.int px), .val (.long (NN px)), .second, .val (.long (dg (NN px) 10000000)), .second, .val (.long (dg (NN px) 1000000)), .second, .val (.long (dg (NN px) 100000)), .second, .val (.long (dg (NN px) 10000)), .second, .val (.long (dg (NN px) 1000)), .second, .val (.long (dg (NN px) 100)), .second, .val (.long (dg (NN px) 10)), .second, .unset, .unset, .unset, .unset] [(.long (10 : Int64)), (.long (NN px))])) t_
    refine XS.lrem X0.here hx rfl (hb hby at_89) rfl (by decide) ?_
    show Steps p.tables e below (s₁.setTop (mkF m 90 #[.val (.int px), .val (.long (NN px)), .second, .val (.long (dg (NN px) 10000000)), .second, .val (.long (dg (NN px) 1000000)), .second, .val (.long (dg (NN px) 100000)), .second, .val (.long (dg (NN px) 10000)), .second, .val (.long (dg (NN px) 1000)), .second, .val (.long (dg (NN px) 100)), .second, .val (.long (dg (NN px) 10)), .second, .unset, .unset, .unset, .unset] [(.long ((NN px) - ((NN px) / (10 : Int64)) * (10 : Int64)))])) t_
    refine XS.lstore X0.here hx rfl (hb hby at_90) rfl (l' := #[.val (.int px), .val (.long (NN px)), .second, .val (.long (dg (NN px) 10000000)), .second, .val (.long (dg (NN px) 1000000)), .second, .val (.long (dg (NN px) 100000)), .second, .val (.long (dg (NN px) 10000)), .second, .val (.long (dg (NN px) 1000)), .second, .val (.long (dg (NN px) 100)), .second, .val (.long (dg (NN px) 10)), .second, .val (.long ((NN px) - ((NN px) / (10 : Int64)) * (10 : Int64))), .second, .unset, .unset]) rfl ?_
    show Steps p.tables e below (s₁.setTop (mkF m 92 #[.val (.int px), .val (.long (NN px)), .second, .val (.long (dg (NN px) 10000000)), .second, .val (.long (dg (NN px) 1000000)), .second, .val (.long (dg (NN px) 100000)), .second, .val (.long (dg (NN px) 10000)), .second, .val (.long (dg (NN px) 1000)), .second, .val (.long (dg (NN px) 100)), .second, .val (.long (dg (NN px) 10)), .second, .val (.long ((NN px) - ((NN px) / (10 : Int64)) * (10 : Int64))), .second, .unset, .unset] [])) t_
    exact k_
  show Go p.tables e below _ (s₁.setTop (mkF m 92 #[.val (.int px), .val (.long (NN px)), .second, .val (.long (dg (NN px) 10000000)), .second, .val (.long (dg (NN px) 1000000)), .second, .val (.long (dg (NN px) 100000)), .second, .val (.long (dg (NN px) 10000)), .second, .val (.long (dg (NN px) 1000)), .second, .val (.long (dg (NN px) 100)), .second, .val (.long (dg (NN px) 10)), .second, .val (.long (dl (NN px))), .second, .unset, .unset] []))
  refine Go.via (B := s₁.setTop (mkF m 94 #[.val (.int px), .val (.long (NN px)), .second, .val (.long (dg (NN px) 10000000)), .second, .val (.long (dg (NN px) 1000000)), .second, .val (.long (dg (NN px) 100000)), .second, .val (.long (dg (NN px) 10000)), .second, .val (.long (dg (NN px) 1000)), .second, .val (.long (dg (NN px) 100)), .second, .val (.long (dg (NN px) 10)), .second, .val (.long (dl (NN px))), .second, .unset, .unset] [(.int (0 : Int32)), (.long (dg (NN px) 10000000))])) (fun t_ k_ => ?_) ?_
  · show Steps p.tables e below (s₁.setTop (mkF m 92 #[.val (.int px), .val (.long (NN px)), .second, .val (.long (dg (NN px) 10000000)), .second, .val (.long (dg (NN px) 1000000)), .second, .val (.long (dg (NN px) 100000)), .second, .val (.long (dg (NN px) 10000)), .second, .val (.long (dg (NN px) 1000)), .second, .val (.long (dg (NN px) 100)), .second, .val (.long (dg (NN px) 10)), .second, .val (.long (dl (NN px))), .second, .unset, .unset] [])) t_
    refine XS.lloadN X0.here hx rfl (hb hby at_92) rfl ?_
    show Steps p.tables e below (s₁.setTop (mkF m 93 #[.val (.int px), .val (.long (NN px)), .second, .val (.long (dg (NN px) 10000000)), .second, .val (.long (dg (NN px) 1000000)), .second, .val (.long (dg (NN px) 100000)), .second, .val (.long (dg (NN px) 10000)), .second, .val (.long (dg (NN px) 1000)), .second, .val (.long (dg (NN px) 100)), .second, .val (.long (dg (NN px) 10)), .second, .val (.long (dl (NN px))), .second, .unset, .unset] [(.long (dg (NN px) 10000000))])) t_
    refine XS.iconst X0.here hx rfl (hb hby at_93) ?_
    show Steps p.tables e below (s₁.setTop (mkF m 94 #[.val (.int px), .val (.long (NN px)), .second, .val (.long (dg (NN px) 10000000)), .second, .val (.long (dg (NN px) 1000000)), .second, .val (.long (dg (NN px) 100000)), .second, .val (.long (dg (NN px) 10000)), .second, .val (.long (dg (NN px) 1000)), .second, .val (.long (dg (NN px) 100)), .second, .val (.long (dg (NN px) 10)), .second, .val (.long (dl (NN px))), .second, .unset, .unset] [(.int (0 : Int32)), (.long (dg (NN px) 10000000))])) t_
    exact k_
  obtain ⟨_, _, ⟨T2, L2, k2, n2⟩, -, X2, ⟨Lc2, hQ2, l2, y2, z2⟩, st2⟩ := Jvm.LawKit.callS X0 hx (y := (⟨"es/quincena/records/EightBytesDigitsValuePinLaw", "place", "(JI)J"⟩ : MethodName)) hown (mvT hZ (hw _ (List.mem_of_getElem? (i := 9) rfl))) (mvT hZ (hw _ (List.mem_of_getElem? (i := 10) rfl))) (mvT hZ (hw _ (List.mem_of_getElem? (i := 11) rfl))) (mvT hZ (hw _ (List.mem_of_getElem? (i := 12) rfl))) (by decide) (backOf (W := 0) (rm1 l Z a0 hw [] (dg (NN px) 10000000) (0 : Int32)  h0 n0 Z0 ) hZ (hw _ (List.mem_of_getElem? (i := 12) rfl)) (hw _ (List.mem_of_getElem? (i := 11) rfl)) (by decide) (by decide)) (g := (mkF m 94 #[.val (.int px), .val (.long (NN px)), .second, .val (.long (dg (NN px) 10000000)), .second, .val (.long (dg (NN px) 1000000)), .second, .val (.long (dg (NN px) 100000)), .second, .val (.long (dg (NN px) 10000)), .second, .val (.long (dg (NN px) 1000)), .second, .val (.long (dg (NN px) 100)), .second, .val (.long (dg (NN px) 10)), .second, .val (.long (dl (NN px))), .second, .unset, .unset] [(.int (0 : Int32)), (.long (dg (NN px) 10000000))])) rfl (by rw [hml]; rfl) (argsL := [(.long (dg (NN px) 10000000)), (.int (0 : Int32))]) (rest := []) (lenOf pd0 rfl) rfl (by show 2 * 0 + _ ≤ _; exact Nat.le_of_eq rfl) (hb hby at_94) (fun _ _ => ⟨rfl, e0, (by decide : 0 + 0 ≤ _), (by decide : 0 + 0 ≤ _)⟩)
  dsimp only [Pt.U, Pt.locs, Pt.cells, Pt.slots] at X2 l2 y2 z2 st2 hQ2
  subst l2 y2 z2
  obtain ⟨rfl, N2q, e2⟩ := hQ2
  have N2 := Fr.app N0 N2q
  refine Go.via st2 ?_
  show Go p.tables e below _ (T2.setTop (mkF m 97 #[.val (.int px), .val (.long (NN px)), .second, .val (.long (dg (NN px) 10000000)), .second, .val (.long (dg (NN px) 1000000)), .second, .val (.long (dg (NN px) 100000)), .second, .val (.long (dg (NN px) 10000)), .second, .val (.long (dg (NN px) 1000)), .second, .val (.long (dg (NN px) 100)), .second, .val (.long (dg (NN px) 10)), .second, .val (.long (dl (NN px))), .second, .unset, .unset] [(.long (F1_0 (dg (NN px) 10000000) (0 : Int32)))]))
  refine Go.via (B := T2.setTop (mkF m 100 #[.val (.int px), .val (.long (NN px)), .second, .val (.long (dg (NN px) 10000000)), .second, .val (.long (dg (NN px) 1000000)), .second, .val (.long (dg (NN px) 100000)), .second, .val (.long (dg (NN px) 10000)), .second, .val (.long (dg (NN px) 1000)), .second, .val (.long (dg (NN px) 100)), .second, .val (.long (dg (NN px) 10)), .second, .val (.long (dl (NN px))), .second, .unset, .unset] [(.int (1 : Int32)), (.long (dg (NN px) 1000000)), (.long (F1_0 (dg (NN px) 10000000) (0 : Int32)))])) (fun t_ k_ => ?_) ?_
  · show Steps p.tables e below (T2.setTop (mkF m 97 #[.val (.int px), .val (.long (NN px)), .second, .val (.long (dg (NN px) 10000000)), .second, .val (.long (dg (NN px) 1000000)), .second, .val (.long (dg (NN px) 100000)), .second, .val (.long (dg (NN px) 10000)), .second, .val (.long (dg (NN px) 1000)), .second, .val (.long (dg (NN px) 100)), .second, .val (.long (dg (NN px) 10)), .second, .val (.long (dl (NN px))), .second, .unset, .unset] [(.long (F1_0 (dg (NN px) 10000000) (0 : Int32)))])) t_
    refine XS.lload X2.here hx rfl (hb hby at_97) rfl ?_
    show Steps p.tables e below (T2.setTop (mkF m 99 #[.val (.int px), .val (.long (NN px)), .second, .val (.long (dg (NN px) 10000000)), .second, .val (.long (dg (NN px) 1000000)), .second, .val (.long (dg (NN px) 100000)), .second, .val (.long (dg (NN px) 10000)), .second, .val (.long (dg (NN px) 1000)), .second, .val (.long (dg (NN px) 100)), .second, .val (.long (dg (NN px) 10)), .second, .val (.long (dl (NN px))), .second, .unset, .unset] [(.long (dg (NN px) 1000000)), (.long (F1_0 (dg (NN px) 10000000) (0 : Int32)))])) t_
    refine XS.iconst X2.here hx rfl (hb hby at_99) ?_
    show Steps p.tables e below (T2.setTop (mkF m 100 #[.val (.int px), .val (.long (NN px)), .second, .val (.long (dg (NN px) 10000000)), .second, .val (.long (dg (NN px) 1000000)), .second, .val (.long (dg (NN px) 100000)), .second, .val (.long (dg (NN px) 10000)), .second, .val (.long (dg (NN px) 1000)), .second, .val (.long (dg (NN px) 100)), .second, .val (.long (dg (NN px) 10)), .second, .val (.long (dl (NN px))), .second, .unset, .unset] [(.int (1 : Int32)), (.long (dg (NN px) 1000000)), (.long (F1_0 (dg (NN px) 10000000) (0 : Int32)))])) t_
    exact k_
  obtain ⟨_, _, ⟨T3, L3, k3, n3⟩, -, X3, ⟨Lc3, hQ3, l3, y3, z3⟩, st3⟩ := Jvm.LawKit.callS X2 hx (y := (⟨"es/quincena/records/EightBytesDigitsValuePinLaw", "place", "(JI)J"⟩ : MethodName)) hown (mvT hZ (hw _ (List.mem_of_getElem? (i := 9) rfl))) (mvT hZ (hw _ (List.mem_of_getElem? (i := 10) rfl))) (mvT hZ (hw _ (List.mem_of_getElem? (i := 11) rfl))) (mvT hZ (hw _ (List.mem_of_getElem? (i := 12) rfl))) (by decide) (backOf (W := 2) (rm1 l Z a0 hw [] (dg (NN px) 1000000) (1 : Int32)  h0 n0 Z0 ) hZ (hw _ (List.mem_of_getElem? (i := 12) rfl)) (hw _ (List.mem_of_getElem? (i := 11) rfl)) (by decide) (by decide)) (g := (mkF m 100 #[.val (.int px), .val (.long (NN px)), .second, .val (.long (dg (NN px) 10000000)), .second, .val (.long (dg (NN px) 1000000)), .second, .val (.long (dg (NN px) 100000)), .second, .val (.long (dg (NN px) 10000)), .second, .val (.long (dg (NN px) 1000)), .second, .val (.long (dg (NN px) 100)), .second, .val (.long (dg (NN px) 10)), .second, .val (.long (dl (NN px))), .second, .unset, .unset] [(.int (1 : Int32)), (.long (dg (NN px) 1000000)), (.long (F1_0 (dg (NN px) 10000000) (0 : Int32)))])) rfl (by rw [hml]; rfl) (argsL := [(.long (dg (NN px) 1000000)), (.int (1 : Int32))]) (rest := [(.long (F1_0 (dg (NN px) 10000000) (0 : Int32)))]) (lenOf pd0 rfl) rfl (by show 2 * 0 + _ ≤ _; exact Nat.le_of_eq rfl) (hb hby at_100) (fun _ _ => ⟨rfl, e2, (by decide : 0 + 0 ≤ _), (by decide : 0 + 0 ≤ _)⟩)
  dsimp only [Pt.U, Pt.locs, Pt.cells, Pt.slots] at X3 l3 y3 z3 st3 hQ3
  subst l3 y3 z3
  obtain ⟨rfl, N3q, e3⟩ := hQ3
  have N3 := Fr.app N2 N3q
  refine Go.via st3 ?_
  show Go p.tables e below _ (T3.setTop (mkF m 103 #[.val (.int px), .val (.long (NN px)), .second, .val (.long (dg (NN px) 10000000)), .second, .val (.long (dg (NN px) 1000000)), .second, .val (.long (dg (NN px) 100000)), .second, .val (.long (dg (NN px) 10000)), .second, .val (.long (dg (NN px) 1000)), .second, .val (.long (dg (NN px) 100)), .second, .val (.long (dg (NN px) 10)), .second, .val (.long (dl (NN px))), .second, .unset, .unset] [(.long (F1_0 (dg (NN px) 1000000) (1 : Int32))), (.long (F1_0 (dg (NN px) 10000000) (0 : Int32)))]))
  refine Go.via (B := T3.setTop (mkF m 107 #[.val (.int px), .val (.long (NN px)), .second, .val (.long (dg (NN px) 10000000)), .second, .val (.long (dg (NN px) 1000000)), .second, .val (.long (dg (NN px) 100000)), .second, .val (.long (dg (NN px) 10000)), .second, .val (.long (dg (NN px) 1000)), .second, .val (.long (dg (NN px) 100)), .second, .val (.long (dg (NN px) 10)), .second, .val (.long (dl (NN px))), .second, .unset, .unset] [(.int (2 : Int32)), (.long (dg (NN px) 100000)), (.long ((F1_0 (dg (NN px) 10000000) (0 : Int32)) ||| (F1_0 (dg (NN px) 1000000) (1 : Int32))))])) (fun t_ k_ => ?_) ?_
  · show Steps p.tables e below (T3.setTop (mkF m 103 #[.val (.int px), .val (.long (NN px)), .second, .val (.long (dg (NN px) 10000000)), .second, .val (.long (dg (NN px) 1000000)), .second, .val (.long (dg (NN px) 100000)), .second, .val (.long (dg (NN px) 10000)), .second, .val (.long (dg (NN px) 1000)), .second, .val (.long (dg (NN px) 100)), .second, .val (.long (dg (NN px) 10)), .second, .val (.long (dl (NN px))), .second, .unset, .unset] [(.long (F1_0 (dg (NN px) 1000000) (1 : Int32))), (.long (F1_0 (dg (NN px) 10000000) (0 : Int32)))])) t_
    refine XS.lor X3.here hx rfl (hb hby at_103) rfl ?_
    show Steps p.tables e below (T3.setTop (mkF m 104 #[.val (.int px), .val (.long (NN px)), .second, .val (.long (dg (NN px) 10000000)), .second, .val (.long (dg (NN px) 1000000)), .second, .val (.long (dg (NN px) 100000)), .second, .val (.long (dg (NN px) 10000)), .second, .val (.long (dg (NN px) 1000)), .second, .val (.long (dg (NN px) 100)), .second, .val (.long (dg (NN px) 10)), .second, .val (.long (dl (NN px))), .second, .unset, .unset] [(.long ((F1_0 (dg (NN px) 10000000) (0 : Int32)) ||| (F1_0 (dg (NN px) 1000000) (1 : Int32))))])) t_
    refine XS.lload X3.here hx rfl (hb hby at_104) rfl ?_
    show Steps p.tables e below (T3.setTop (mkF m 106 #[.val (.int px), .val (.long (NN px)), .second, .val (.long (dg (NN px) 10000000)), .second, .val (.long (dg (NN px) 1000000)), .second, .val (.long (dg (NN px) 100000)), .second, .val (.long (dg (NN px) 10000)), .second, .val (.long (dg (NN px) 1000)), .second, .val (.long (dg (NN px) 100)), .second, .val (.long (dg (NN px) 10)), .second, .val (.long (dl (NN px))), .second, .unset, .unset] [(.long (dg (NN px) 100000)), (.long ((F1_0 (dg (NN px) 10000000) (0 : Int32)) ||| (F1_0 (dg (NN px) 1000000) (1 : Int32))))])) t_
    refine XS.iconst X3.here hx rfl (hb hby at_106) ?_
    show Steps p.tables e below (T3.setTop (mkF m 107 #[.val (.int px), .val (.long (NN px)), .second, .val (.long (dg (NN px) 10000000)), .second, .val (.long (dg (NN px) 1000000)), .second, .val (.long (dg (NN px) 100000)), .second, .val (.long (dg (NN px) 10000)), .second, .val (.long (dg (NN px) 1000)), .second, .val (.long (dg (NN px) 100)), .second, .val (.long (dg (NN px) 10)), .second, .val (.long (dl (NN px))), .second, .unset, .unset] [(.int (2 : Int32)), (.long (dg (NN px) 100000)), (.long ((F1_0 (dg (NN px) 10000000) (0 : Int32)) ||| (F1_0 (dg (NN px) 1000000) (1 : Int32))))])) t_
    exact k_
  obtain ⟨_, _, ⟨T4, L4, k4, n4⟩, -, X4, ⟨Lc4, hQ4, l4, y4, z4⟩, st4⟩ := Jvm.LawKit.callS X3 hx (y := (⟨"es/quincena/records/EightBytesDigitsValuePinLaw", "place", "(JI)J"⟩ : MethodName)) hown (mvT hZ (hw _ (List.mem_of_getElem? (i := 9) rfl))) (mvT hZ (hw _ (List.mem_of_getElem? (i := 10) rfl))) (mvT hZ (hw _ (List.mem_of_getElem? (i := 11) rfl))) (mvT hZ (hw _ (List.mem_of_getElem? (i := 12) rfl))) (by decide) (backOf (W := 2) (rm1 l Z a0 hw [] (dg (NN px) 100000) (2 : Int32)  h0 n0 Z0 ) hZ (hw _ (List.mem_of_getElem? (i := 12) rfl)) (hw _ (List.mem_of_getElem? (i := 11) rfl)) (by decide) (by decide)) (g := (mkF m 107 #[.val (.int px), .val (.long (NN px)), .second, .val (.long (dg (NN px) 10000000)), .second, .val (.long (dg (NN px) 1000000)), .second, .val (.long (dg (NN px) 100000)), .second, .val (.long (dg (NN px) 10000)), .second, .val (.long (dg (NN px) 1000)), .second, .val (.long (dg (NN px) 100)), .second, .val (.long (dg (NN px) 10)), .second, .val (.long (dl (NN px))), .second, .unset, .unset] [(.int (2 : Int32)), (.long (dg (NN px) 100000)), (.long ((F1_0 (dg (NN px) 10000000) (0 : Int32)) ||| (F1_0 (dg (NN px) 1000000) (1 : Int32))))])) rfl (by rw [hml]; rfl) (argsL := [(.long (dg (NN px) 100000)), (.int (2 : Int32))]) (rest := [(.long ((F1_0 (dg (NN px) 10000000) (0 : Int32)) ||| (F1_0 (dg (NN px) 1000000) (1 : Int32))))]) (lenOf pd0 rfl) rfl (by show 2 * 0 + _ ≤ _; exact Nat.le_of_eq rfl) (hb hby at_107) (fun _ _ => ⟨rfl, e3, (by decide : 0 + 0 ≤ _), (by decide : 0 + 0 ≤ _)⟩)
  dsimp only [Pt.U, Pt.locs, Pt.cells, Pt.slots] at X4 l4 y4 z4 st4 hQ4
  subst l4 y4 z4
  obtain ⟨rfl, N4q, e4⟩ := hQ4
  have N4 := Fr.app N3 N4q
  refine Go.via st4 ?_
  show Go p.tables e below _ (T4.setTop (mkF m 110 #[.val (.int px), .val (.long (NN px)), .second, .val (.long (dg (NN px) 10000000)), .second, .val (.long (dg (NN px) 1000000)), .second, .val (.long (dg (NN px) 100000)), .second, .val (.long (dg (NN px) 10000)), .second, .val (.long (dg (NN px) 1000)), .second, .val (.long (dg (NN px) 100)), .second, .val (.long (dg (NN px) 10)), .second, .val (.long (dl (NN px))), .second, .unset, .unset] [(.long (F1_0 (dg (NN px) 100000) (2 : Int32))), (.long ((F1_0 (dg (NN px) 10000000) (0 : Int32)) ||| (F1_0 (dg (NN px) 1000000) (1 : Int32))))]))
  refine Go.via (B := T4.setTop (mkF m 114 #[.val (.int px), .val (.long (NN px)), .second, .val (.long (dg (NN px) 10000000)), .second, .val (.long (dg (NN px) 1000000)), .second, .val (.long (dg (NN px) 100000)), .second, .val (.long (dg (NN px) 10000)), .second, .val (.long (dg (NN px) 1000)), .second, .val (.long (dg (NN px) 100)), .second, .val (.long (dg (NN px) 10)), .second, .val (.long (dl (NN px))), .second, .unset, .unset] [(.int (3 : Int32)), (.long (dg (NN px) 10000)), (.long (((F1_0 (dg (NN px) 10000000) (0 : Int32)) ||| (F1_0 (dg (NN px) 1000000) (1 : Int32))) ||| (F1_0 (dg (NN px) 100000) (2 : Int32))))])) (fun t_ k_ => ?_) ?_
  · show Steps p.tables e below (T4.setTop (mkF m 110 #[.val (.int px), .val (.long (NN px)), .second, .val (.long (dg (NN px) 10000000)), .second, .val (.long (dg (NN px) 1000000)), .second, .val (.long (dg (NN px) 100000)), .second, .val (.long (dg (NN px) 10000)), .second, .val (.long (dg (NN px) 1000)), .second, .val (.long (dg (NN px) 100)), .second, .val (.long (dg (NN px) 10)), .second, .val (.long (dl (NN px))), .second, .unset, .unset] [(.long (F1_0 (dg (NN px) 100000) (2 : Int32))), (.long ((F1_0 (dg (NN px) 10000000) (0 : Int32)) ||| (F1_0 (dg (NN px) 1000000) (1 : Int32))))])) t_
    refine XS.lor X4.here hx rfl (hb hby at_110) rfl ?_
    show Steps p.tables e below (T4.setTop (mkF m 111 #[.val (.int px), .val (.long (NN px)), .second, .val (.long (dg (NN px) 10000000)), .second, .val (.long (dg (NN px) 1000000)), .second, .val (.long (dg (NN px) 100000)), .second, .val (.long (dg (NN px) 10000)), .second, .val (.long (dg (NN px) 1000)), .second, .val (.long (dg (NN px) 100)), .second, .val (.long (dg (NN px) 10)), .second, .val (.long (dl (NN px))), .second, .unset, .unset] [(.long (((F1_0 (dg (NN px) 10000000) (0 : Int32)) ||| (F1_0 (dg (NN px) 1000000) (1 : Int32))) ||| (F1_0 (dg (NN px) 100000) (2 : Int32))))])) t_
    refine XS.lload X4.here hx rfl (hb hby at_111) rfl ?_
    show Steps p.tables e below (T4.setTop (mkF m 113 #[.val (.int px), .val (.long (NN px)), .second, .val (.long (dg (NN px) 10000000)), .second, .val (.long (dg (NN px) 1000000)), .second, .val (.long (dg (NN px) 100000)), .second, .val (.long (dg (NN px) 10000)), .second, .val (.long (dg (NN px) 1000)), .second, .val (.long (dg (NN px) 100)), .second, .val (.long (dg (NN px) 10)), .second, .val (.long (dl (NN px))), .second, .unset, .unset] [(.long (dg (NN px) 10000)), (.long (((F1_0 (dg (NN px) 10000000) (0 : Int32)) ||| (F1_0 (dg (NN px) 1000000) (1 : Int32))) ||| (F1_0 (dg (NN px) 100000) (2 : Int32))))])) t_
    refine XS.iconst X4.here hx rfl (hb hby at_113) ?_
    show Steps p.tables e below (T4.setTop (mkF m 114 #[.val (.int px), .val (.long (NN px)), .second, .val (.long (dg (NN px) 10000000)), .second, .val (.long (dg (NN px) 1000000)), .second, .val (.long (dg (NN px) 100000)), .second, .val (.long (dg (NN px) 10000)), .second, .val (.long (dg (NN px) 1000)), .second, .val (.long (dg (NN px) 100)), .second, .val (.long (dg (NN px) 10)), .second, .val (.long (dl (NN px))), .second, .unset, .unset] [(.int (3 : Int32)), (.long (dg (NN px) 10000)), (.long (((F1_0 (dg (NN px) 10000000) (0 : Int32)) ||| (F1_0 (dg (NN px) 1000000) (1 : Int32))) ||| (F1_0 (dg (NN px) 100000) (2 : Int32))))])) t_
    exact k_
  obtain ⟨_, _, ⟨T5, L5, k5, n5⟩, -, X5, ⟨Lc5, hQ5, l5, y5, z5⟩, st5⟩ := Jvm.LawKit.callS X4 hx (y := (⟨"es/quincena/records/EightBytesDigitsValuePinLaw", "place", "(JI)J"⟩ : MethodName)) hown (mvT hZ (hw _ (List.mem_of_getElem? (i := 9) rfl))) (mvT hZ (hw _ (List.mem_of_getElem? (i := 10) rfl))) (mvT hZ (hw _ (List.mem_of_getElem? (i := 11) rfl))) (mvT hZ (hw _ (List.mem_of_getElem? (i := 12) rfl))) (by decide) (backOf (W := 2) (rm1 l Z a0 hw [] (dg (NN px) 10000) (3 : Int32)  h0 n0 Z0 ) hZ (hw _ (List.mem_of_getElem? (i := 12) rfl)) (hw _ (List.mem_of_getElem? (i := 11) rfl)) (by decide) (by decide)) (g := (mkF m 114 #[.val (.int px), .val (.long (NN px)), .second, .val (.long (dg (NN px) 10000000)), .second, .val (.long (dg (NN px) 1000000)), .second, .val (.long (dg (NN px) 100000)), .second, .val (.long (dg (NN px) 10000)), .second, .val (.long (dg (NN px) 1000)), .second, .val (.long (dg (NN px) 100)), .second, .val (.long (dg (NN px) 10)), .second, .val (.long (dl (NN px))), .second, .unset, .unset] [(.int (3 : Int32)), (.long (dg (NN px) 10000)), (.long (((F1_0 (dg (NN px) 10000000) (0 : Int32)) ||| (F1_0 (dg (NN px) 1000000) (1 : Int32))) ||| (F1_0 (dg (NN px) 100000) (2 : Int32))))])) rfl (by rw [hml]; rfl) (argsL := [(.long (dg (NN px) 10000)), (.int (3 : Int32))]) (rest := [(.long (((F1_0 (dg (NN px) 10000000) (0 : Int32)) ||| (F1_0 (dg (NN px) 1000000) (1 : Int32))) ||| (F1_0 (dg (NN px) 100000) (2 : Int32))))]) (lenOf pd0 rfl) rfl (by show 2 * 0 + _ ≤ _; exact Nat.le_of_eq rfl) (hb hby at_114) (fun _ _ => ⟨rfl, e4, (by decide : 0 + 0 ≤ _), (by decide : 0 + 0 ≤ _)⟩)
  dsimp only [Pt.U, Pt.locs, Pt.cells, Pt.slots] at X5 l5 y5 z5 st5 hQ5
  subst l5 y5 z5
  obtain ⟨rfl, N5q, e5⟩ := hQ5
  have N5 := Fr.app N4 N5q
  refine Go.via st5 ?_
  show Go p.tables e below _ (T5.setTop (mkF m 117 #[.val (.int px), .val (.long (NN px)), .second, .val (.long (dg (NN px) 10000000)), .second, .val (.long (dg (NN px) 1000000)), .second, .val (.long (dg (NN px) 100000)), .second, .val (.long (dg (NN px) 10000)), .second, .val (.long (dg (NN px) 1000)), .second, .val (.long (dg (NN px) 100)), .second, .val (.long (dg (NN px) 10)), .second, .val (.long (dl (NN px))), .second, .unset, .unset] [(.long (F1_0 (dg (NN px) 10000) (3 : Int32))), (.long (((F1_0 (dg (NN px) 10000000) (0 : Int32)) ||| (F1_0 (dg (NN px) 1000000) (1 : Int32))) ||| (F1_0 (dg (NN px) 100000) (2 : Int32))))]))
  refine Go.via (B := T5.setTop (mkF m 121 #[.val (.int px), .val (.long (NN px)), .second, .val (.long (dg (NN px) 10000000)), .second, .val (.long (dg (NN px) 1000000)), .second, .val (.long (dg (NN px) 100000)), .second, .val (.long (dg (NN px) 10000)), .second, .val (.long (dg (NN px) 1000)), .second, .val (.long (dg (NN px) 100)), .second, .val (.long (dg (NN px) 10)), .second, .val (.long (dl (NN px))), .second, .unset, .unset] [(.int (4 : Int32)), (.long (dg (NN px) 1000)), (.long ((((F1_0 (dg (NN px) 10000000) (0 : Int32)) ||| (F1_0 (dg (NN px) 1000000) (1 : Int32))) ||| (F1_0 (dg (NN px) 100000) (2 : Int32))) ||| (F1_0 (dg (NN px) 10000) (3 : Int32))))])) (fun t_ k_ => ?_) ?_
  · show Steps p.tables e below (T5.setTop (mkF m 117 #[.val (.int px), .val (.long (NN px)), .second, .val (.long (dg (NN px) 10000000)), .second, .val (.long (dg (NN px) 1000000)), .second, .val (.long (dg (NN px) 100000)), .second, .val (.long (dg (NN px) 10000)), .second, .val (.long (dg (NN px) 1000)), .second, .val (.long (dg (NN px) 100)), .second, .val (.long (dg (NN px) 10)), .second, .val (.long (dl (NN px))), .second, .unset, .unset] [(.long (F1_0 (dg (NN px) 10000) (3 : Int32))), (.long (((F1_0 (dg (NN px) 10000000) (0 : Int32)) ||| (F1_0 (dg (NN px) 1000000) (1 : Int32))) ||| (F1_0 (dg (NN px) 100000) (2 : Int32))))])) t_
    refine XS.lor X5.here hx rfl (hb hby at_117) rfl ?_
    show Steps p.tables e below (T5.setTop (mkF m 118 #[.val (.int px), .val (.long (NN px)), .second, .val (.long (dg (NN px) 10000000)), .second, .val (.long (dg (NN px) 1000000)), .second, .val (.long (dg (NN px) 100000)), .second, .val (.long (dg (NN px) 10000)), .second, .val (.long (dg (NN px) 1000)), .second, .val (.long (dg (NN px) 100)), .second, .val (.long (dg (NN px) 10)), .second, .val (.long (dl (NN px))), .second, .unset, .unset] [(.long ((((F1_0 (dg (NN px) 10000000) (0 : Int32)) ||| (F1_0 (dg (NN px) 1000000) (1 : Int32))) ||| (F1_0 (dg (NN px) 100000) (2 : Int32))) ||| (F1_0 (dg (NN px) 10000) (3 : Int32))))])) t_
    refine XS.lload X5.here hx rfl (hb hby at_118) rfl ?_
    show Steps p.tables e below (T5.setTop (mkF m 120 #[.val (.int px), .val (.long (NN px)), .second, .val (.long (dg (NN px) 10000000)), .second, .val (.long (dg (NN px) 1000000)), .second, .val (.long (dg (NN px) 100000)), .second, .val (.long (dg (NN px) 10000)), .second, .val (.long (dg (NN px) 1000)), .second, .val (.long (dg (NN px) 100)), .second, .val (.long (dg (NN px) 10)), .second, .val (.long (dl (NN px))), .second, .unset, .unset] [(.long (dg (NN px) 1000)), (.long ((((F1_0 (dg (NN px) 10000000) (0 : Int32)) ||| (F1_0 (dg (NN px) 1000000) (1 : Int32))) ||| (F1_0 (dg (NN px) 100000) (2 : Int32))) ||| (F1_0 (dg (NN px) 10000) (3 : Int32))))])) t_
    refine XS.iconst X5.here hx rfl (hb hby at_120) ?_
    show Steps p.tables e below (T5.setTop (mkF m 121 #[.val (.int px), .val (.long (NN px)), .second, .val (.long (dg (NN px) 10000000)), .second, .val (.long (dg (NN px) 1000000)), .second, .val (.long (dg (NN px) 100000)), .second, .val (.long (dg (NN px) 10000)), .second, .val (.long (dg (NN px) 1000)), .second, .val (.long (dg (NN px) 100)), .second, .val (.long (dg (NN px) 10)), .second, .val (.long (dl (NN px))), .second, .unset, .unset] [(.int (4 : Int32)), (.long (dg (NN px) 1000)), (.long ((((F1_0 (dg (NN px) 10000000) (0 : Int32)) ||| (F1_0 (dg (NN px) 1000000) (1 : Int32))) ||| (F1_0 (dg (NN px) 100000) (2 : Int32))) ||| (F1_0 (dg (NN px) 10000) (3 : Int32))))])) t_
    exact k_
  obtain ⟨_, _, ⟨T6, L6, k6, n6⟩, -, X6, ⟨Lc6, hQ6, l6, y6, z6⟩, st6⟩ := Jvm.LawKit.callS X5 hx (y := (⟨"es/quincena/records/EightBytesDigitsValuePinLaw", "place", "(JI)J"⟩ : MethodName)) hown (mvT hZ (hw _ (List.mem_of_getElem? (i := 9) rfl))) (mvT hZ (hw _ (List.mem_of_getElem? (i := 10) rfl))) (mvT hZ (hw _ (List.mem_of_getElem? (i := 11) rfl))) (mvT hZ (hw _ (List.mem_of_getElem? (i := 12) rfl))) (by decide) (backOf (W := 2) (rm1 l Z a0 hw [] (dg (NN px) 1000) (4 : Int32)  h0 n0 Z0 ) hZ (hw _ (List.mem_of_getElem? (i := 12) rfl)) (hw _ (List.mem_of_getElem? (i := 11) rfl)) (by decide) (by decide)) (g := (mkF m 121 #[.val (.int px), .val (.long (NN px)), .second, .val (.long (dg (NN px) 10000000)), .second, .val (.long (dg (NN px) 1000000)), .second, .val (.long (dg (NN px) 100000)), .second, .val (.long (dg (NN px) 10000)), .second, .val (.long (dg (NN px) 1000)), .second, .val (.long (dg (NN px) 100)), .second, .val (.long (dg (NN px) 10)), .second, .val (.long (dl (NN px))), .second, .unset, .unset] [(.int (4 : Int32)), (.long (dg (NN px) 1000)), (.long ((((F1_0 (dg (NN px) 10000000) (0 : Int32)) ||| (F1_0 (dg (NN px) 1000000) (1 : Int32))) ||| (F1_0 (dg (NN px) 100000) (2 : Int32))) ||| (F1_0 (dg (NN px) 10000) (3 : Int32))))])) rfl (by rw [hml]; rfl) (argsL := [(.long (dg (NN px) 1000)), (.int (4 : Int32))]) (rest := [(.long ((((F1_0 (dg (NN px) 10000000) (0 : Int32)) ||| (F1_0 (dg (NN px) 1000000) (1 : Int32))) ||| (F1_0 (dg (NN px) 100000) (2 : Int32))) ||| (F1_0 (dg (NN px) 10000) (3 : Int32))))]) (lenOf pd0 rfl) rfl (by show 2 * 0 + _ ≤ _; exact Nat.le_of_eq rfl) (hb hby at_121) (fun _ _ => ⟨rfl, e5, (by decide : 0 + 0 ≤ _), (by decide : 0 + 0 ≤ _)⟩)
  dsimp only [Pt.U, Pt.locs, Pt.cells, Pt.slots] at X6 l6 y6 z6 st6 hQ6
  subst l6 y6 z6
  obtain ⟨rfl, N6q, e6⟩ := hQ6
  have N6 := Fr.app N5 N6q
  refine Go.via st6 ?_
  show Go p.tables e below _ (T6.setTop (mkF m 124 #[.val (.int px), .val (.long (NN px)), .second, .val (.long (dg (NN px) 10000000)), .second, .val (.long (dg (NN px) 1000000)), .second, .val (.long (dg (NN px) 100000)), .second, .val (.long (dg (NN px) 10000)), .second, .val (.long (dg (NN px) 1000)), .second, .val (.long (dg (NN px) 100)), .second, .val (.long (dg (NN px) 10)), .second, .val (.long (dl (NN px))), .second, .unset, .unset] [(.long (F1_0 (dg (NN px) 1000) (4 : Int32))), (.long ((((F1_0 (dg (NN px) 10000000) (0 : Int32)) ||| (F1_0 (dg (NN px) 1000000) (1 : Int32))) ||| (F1_0 (dg (NN px) 100000) (2 : Int32))) ||| (F1_0 (dg (NN px) 10000) (3 : Int32))))]))
  refine Go.via (B := T6.setTop (mkF m 128 #[.val (.int px), .val (.long (NN px)), .second, .val (.long (dg (NN px) 10000000)), .second, .val (.long (dg (NN px) 1000000)), .second, .val (.long (dg (NN px) 100000)), .second, .val (.long (dg (NN px) 10000)), .second, .val (.long (dg (NN px) 1000)), .second, .val (.long (dg (NN px) 100)), .second, .val (.long (dg (NN px) 10)), .second, .val (.long (dl (NN px))), .second, .unset, .unset] [(.int (5 : Int32)), (.long (dg (NN px) 100)), (.long (((((F1_0 (dg (NN px) 10000000) (0 : Int32)) ||| (F1_0 (dg (NN px) 1000000) (1 : Int32))) ||| (F1_0 (dg (NN px) 100000) (2 : Int32))) ||| (F1_0 (dg (NN px) 10000) (3 : Int32))) ||| (F1_0 (dg (NN px) 1000) (4 : Int32))))])) (fun t_ k_ => ?_) ?_
  · show Steps p.tables e below (T6.setTop (mkF m 124 #[.val (.int px), .val (.long (NN px)), .second, .val (.long (dg (NN px) 10000000)), .second, .val (.long (dg (NN px) 1000000)), .second, .val (.long (dg (NN px) 100000)), .second, .val (.long (dg (NN px) 10000)), .second, .val (.long (dg (NN px) 1000)), .second, .val (.long (dg (NN px) 100)), .second, .val (.long (dg (NN px) 10)), .second, .val (.long (dl (NN px))), .second, .unset, .unset] [(.long (F1_0 (dg (NN px) 1000) (4 : Int32))), (.long ((((F1_0 (dg (NN px) 10000000) (0 : Int32)) ||| (F1_0 (dg (NN px) 1000000) (1 : Int32))) ||| (F1_0 (dg (NN px) 100000) (2 : Int32))) ||| (F1_0 (dg (NN px) 10000) (3 : Int32))))])) t_
    refine XS.lor X6.here hx rfl (hb hby at_124) rfl ?_
    show Steps p.tables e below (T6.setTop (mkF m 125 #[.val (.int px), .val (.long (NN px)), .second, .val (.long (dg (NN px) 10000000)), .second, .val (.long (dg (NN px) 1000000)), .second, .val (.long (dg (NN px) 100000)), .second, .val (.long (dg (NN px) 10000)), .second, .val (.long (dg (NN px) 1000)), .second, .val (.long (dg (NN px) 100)), .second, .val (.long (dg (NN px) 10)), .second, .val (.long (dl (NN px))), .second, .unset, .unset] [(.long (((((F1_0 (dg (NN px) 10000000) (0 : Int32)) ||| (F1_0 (dg (NN px) 1000000) (1 : Int32))) ||| (F1_0 (dg (NN px) 100000) (2 : Int32))) ||| (F1_0 (dg (NN px) 10000) (3 : Int32))) ||| (F1_0 (dg (NN px) 1000) (4 : Int32))))])) t_
    refine XS.lload X6.here hx rfl (hb hby at_125) rfl ?_
    show Steps p.tables e below (T6.setTop (mkF m 127 #[.val (.int px), .val (.long (NN px)), .second, .val (.long (dg (NN px) 10000000)), .second, .val (.long (dg (NN px) 1000000)), .second, .val (.long (dg (NN px) 100000)), .second, .val (.long (dg (NN px) 10000)), .second, .val (.long (dg (NN px) 1000)), .second, .val (.long (dg (NN px) 100)), .second, .val (.long (dg (NN px) 10)), .second, .val (.long (dl (NN px))), .second, .unset, .unset] [(.long (dg (NN px) 100)), (.long (((((F1_0 (dg (NN px) 10000000) (0 : Int32)) ||| (F1_0 (dg (NN px) 1000000) (1 : Int32))) ||| (F1_0 (dg (NN px) 100000) (2 : Int32))) ||| (F1_0 (dg (NN px) 10000) (3 : Int32))) ||| (F1_0 (dg (NN px) 1000) (4 : Int32))))])) t_
    refine XS.iconst X6.here hx rfl (hb hby at_127) ?_
    show Steps p.tables e below (T6.setTop (mkF m 128 #[.val (.int px), .val (.long (NN px)), .second, .val (.long (dg (NN px) 10000000)), .second, .val (.long (dg (NN px) 1000000)), .second, .val (.long (dg (NN px) 100000)), .second, .val (.long (dg (NN px) 10000)), .second, .val (.long (dg (NN px) 1000)), .second, .val (.long (dg (NN px) 100)), .second, .val (.long (dg (NN px) 10)), .second, .val (.long (dl (NN px))), .second, .unset, .unset] [(.int (5 : Int32)), (.long (dg (NN px) 100)), (.long (((((F1_0 (dg (NN px) 10000000) (0 : Int32)) ||| (F1_0 (dg (NN px) 1000000) (1 : Int32))) ||| (F1_0 (dg (NN px) 100000) (2 : Int32))) ||| (F1_0 (dg (NN px) 10000) (3 : Int32))) ||| (F1_0 (dg (NN px) 1000) (4 : Int32))))])) t_
    exact k_
  obtain ⟨_, _, ⟨T7, L7, k7, n7⟩, -, X7, ⟨Lc7, hQ7, l7, y7, z7⟩, st7⟩ := Jvm.LawKit.callS X6 hx (y := (⟨"es/quincena/records/EightBytesDigitsValuePinLaw", "place", "(JI)J"⟩ : MethodName)) hown (mvT hZ (hw _ (List.mem_of_getElem? (i := 9) rfl))) (mvT hZ (hw _ (List.mem_of_getElem? (i := 10) rfl))) (mvT hZ (hw _ (List.mem_of_getElem? (i := 11) rfl))) (mvT hZ (hw _ (List.mem_of_getElem? (i := 12) rfl))) (by decide) (backOf (W := 2) (rm1 l Z a0 hw [] (dg (NN px) 100) (5 : Int32)  h0 n0 Z0 ) hZ (hw _ (List.mem_of_getElem? (i := 12) rfl)) (hw _ (List.mem_of_getElem? (i := 11) rfl)) (by decide) (by decide)) (g := (mkF m 128 #[.val (.int px), .val (.long (NN px)), .second, .val (.long (dg (NN px) 10000000)), .second, .val (.long (dg (NN px) 1000000)), .second, .val (.long (dg (NN px) 100000)), .second, .val (.long (dg (NN px) 10000)), .second, .val (.long (dg (NN px) 1000)), .second, .val (.long (dg (NN px) 100)), .second, .val (.long (dg (NN px) 10)), .second, .val (.long (dl (NN px))), .second, .unset, .unset] [(.int (5 : Int32)), (.long (dg (NN px) 100)), (.long (((((F1_0 (dg (NN px) 10000000) (0 : Int32)) ||| (F1_0 (dg (NN px) 1000000) (1 : Int32))) ||| (F1_0 (dg (NN px) 100000) (2 : Int32))) ||| (F1_0 (dg (NN px) 10000) (3 : Int32))) ||| (F1_0 (dg (NN px) 1000) (4 : Int32))))])) rfl (by rw [hml]; rfl) (argsL := [(.long (dg (NN px) 100)), (.int (5 : Int32))]) (rest := [(.long (((((F1_0 (dg (NN px) 10000000) (0 : Int32)) ||| (F1_0 (dg (NN px) 1000000) (1 : Int32))) ||| (F1_0 (dg (NN px) 100000) (2 : Int32))) ||| (F1_0 (dg (NN px) 10000) (3 : Int32))) ||| (F1_0 (dg (NN px) 1000) (4 : Int32))))]) (lenOf pd0 rfl) rfl (by show 2 * 0 + _ ≤ _; exact Nat.le_of_eq rfl) (hb hby at_128) (fun _ _ => ⟨rfl, e6, (by decide : 0 + 0 ≤ _), (by decide : 0 + 0 ≤ _)⟩)
  dsimp only [Pt.U, Pt.locs, Pt.cells, Pt.slots] at X7 l7 y7 z7 st7 hQ7
  subst l7 y7 z7
  obtain ⟨rfl, N7q, e7⟩ := hQ7
  have N7 := Fr.app N6 N7q
  refine Go.via st7 ?_
  show Go p.tables e below _ (T7.setTop (mkF m 131 #[.val (.int px), .val (.long (NN px)), .second, .val (.long (dg (NN px) 10000000)), .second, .val (.long (dg (NN px) 1000000)), .second, .val (.long (dg (NN px) 100000)), .second, .val (.long (dg (NN px) 10000)), .second, .val (.long (dg (NN px) 1000)), .second, .val (.long (dg (NN px) 100)), .second, .val (.long (dg (NN px) 10)), .second, .val (.long (dl (NN px))), .second, .unset, .unset] [(.long (F1_0 (dg (NN px) 100) (5 : Int32))), (.long (((((F1_0 (dg (NN px) 10000000) (0 : Int32)) ||| (F1_0 (dg (NN px) 1000000) (1 : Int32))) ||| (F1_0 (dg (NN px) 100000) (2 : Int32))) ||| (F1_0 (dg (NN px) 10000) (3 : Int32))) ||| (F1_0 (dg (NN px) 1000) (4 : Int32))))]))
  refine Go.via (B := T7.setTop (mkF m 136 #[.val (.int px), .val (.long (NN px)), .second, .val (.long (dg (NN px) 10000000)), .second, .val (.long (dg (NN px) 1000000)), .second, .val (.long (dg (NN px) 100000)), .second, .val (.long (dg (NN px) 10000)), .second, .val (.long (dg (NN px) 1000)), .second, .val (.long (dg (NN px) 100)), .second, .val (.long (dg (NN px) 10)), .second, .val (.long (dl (NN px))), .second, .unset, .unset] [(.int (6 : Int32)), (.long (dg (NN px) 10)), (.long ((((((F1_0 (dg (NN px) 10000000) (0 : Int32)) ||| (F1_0 (dg (NN px) 1000000) (1 : Int32))) ||| (F1_0 (dg (NN px) 100000) (2 : Int32))) ||| (F1_0 (dg (NN px) 10000) (3 : Int32))) ||| (F1_0 (dg (NN px) 1000) (4 : Int32))) ||| (F1_0 (dg (NN px) 100) (5 : Int32))))])) (fun t_ k_ => ?_) ?_
  · show Steps p.tables e below (T7.setTop (mkF m 131 #[.val (.int px), .val (.long (NN px)), .second, .val (.long (dg (NN px) 10000000)), .second, .val (.long (dg (NN px) 1000000)), .second, .val (.long (dg (NN px) 100000)), .second, .val (.long (dg (NN px) 10000)), .second, .val (.long (dg (NN px) 1000)), .second, .val (.long (dg (NN px) 100)), .second, .val (.long (dg (NN px) 10)), .second, .val (.long (dl (NN px))), .second, .unset, .unset] [(.long (F1_0 (dg (NN px) 100) (5 : Int32))), (.long (((((F1_0 (dg (NN px) 10000000) (0 : Int32)) ||| (F1_0 (dg (NN px) 1000000) (1 : Int32))) ||| (F1_0 (dg (NN px) 100000) (2 : Int32))) ||| (F1_0 (dg (NN px) 10000) (3 : Int32))) ||| (F1_0 (dg (NN px) 1000) (4 : Int32))))])) t_
    refine XS.lor X7.here hx rfl (hb hby at_131) rfl ?_
    show Steps p.tables e below (T7.setTop (mkF m 132 #[.val (.int px), .val (.long (NN px)), .second, .val (.long (dg (NN px) 10000000)), .second, .val (.long (dg (NN px) 1000000)), .second, .val (.long (dg (NN px) 100000)), .second, .val (.long (dg (NN px) 10000)), .second, .val (.long (dg (NN px) 1000)), .second, .val (.long (dg (NN px) 100)), .second, .val (.long (dg (NN px) 10)), .second, .val (.long (dl (NN px))), .second, .unset, .unset] [(.long ((((((F1_0 (dg (NN px) 10000000) (0 : Int32)) ||| (F1_0 (dg (NN px) 1000000) (1 : Int32))) ||| (F1_0 (dg (NN px) 100000) (2 : Int32))) ||| (F1_0 (dg (NN px) 10000) (3 : Int32))) ||| (F1_0 (dg (NN px) 1000) (4 : Int32))) ||| (F1_0 (dg (NN px) 100) (5 : Int32))))])) t_
    refine XS.lload X7.here hx rfl (hb hby at_132) rfl ?_
    show Steps p.tables e below (T7.setTop (mkF m 134 #[.val (.int px), .val (.long (NN px)), .second, .val (.long (dg (NN px) 10000000)), .second, .val (.long (dg (NN px) 1000000)), .second, .val (.long (dg (NN px) 100000)), .second, .val (.long (dg (NN px) 10000)), .second, .val (.long (dg (NN px) 1000)), .second, .val (.long (dg (NN px) 100)), .second, .val (.long (dg (NN px) 10)), .second, .val (.long (dl (NN px))), .second, .unset, .unset] [(.long (dg (NN px) 10)), (.long ((((((F1_0 (dg (NN px) 10000000) (0 : Int32)) ||| (F1_0 (dg (NN px) 1000000) (1 : Int32))) ||| (F1_0 (dg (NN px) 100000) (2 : Int32))) ||| (F1_0 (dg (NN px) 10000) (3 : Int32))) ||| (F1_0 (dg (NN px) 1000) (4 : Int32))) ||| (F1_0 (dg (NN px) 100) (5 : Int32))))])) t_
    refine XS.bipush X7.here hx rfl (hb hby at_134) ?_
    show Steps p.tables e below (T7.setTop (mkF m 136 #[.val (.int px), .val (.long (NN px)), .second, .val (.long (dg (NN px) 10000000)), .second, .val (.long (dg (NN px) 1000000)), .second, .val (.long (dg (NN px) 100000)), .second, .val (.long (dg (NN px) 10000)), .second, .val (.long (dg (NN px) 1000)), .second, .val (.long (dg (NN px) 100)), .second, .val (.long (dg (NN px) 10)), .second, .val (.long (dl (NN px))), .second, .unset, .unset] [(.int (6 : Int32)), (.long (dg (NN px) 10)), (.long ((((((F1_0 (dg (NN px) 10000000) (0 : Int32)) ||| (F1_0 (dg (NN px) 1000000) (1 : Int32))) ||| (F1_0 (dg (NN px) 100000) (2 : Int32))) ||| (F1_0 (dg (NN px) 10000) (3 : Int32))) ||| (F1_0 (dg (NN px) 1000) (4 : Int32))) ||| (F1_0 (dg (NN px) 100) (5 : Int32))))])) t_
    exact k_
  obtain ⟨_, _, ⟨T8, L8, k8, n8⟩, -, X8, ⟨Lc8, hQ8, l8, y8, z8⟩, st8⟩ := Jvm.LawKit.callS X7 hx (y := (⟨"es/quincena/records/EightBytesDigitsValuePinLaw", "place", "(JI)J"⟩ : MethodName)) hown (mvT hZ (hw _ (List.mem_of_getElem? (i := 9) rfl))) (mvT hZ (hw _ (List.mem_of_getElem? (i := 10) rfl))) (mvT hZ (hw _ (List.mem_of_getElem? (i := 11) rfl))) (mvT hZ (hw _ (List.mem_of_getElem? (i := 12) rfl))) (by decide) (backOf (W := 2) (rm1 l Z a0 hw [] (dg (NN px) 10) (6 : Int32)  h0 n0 Z0 ) hZ (hw _ (List.mem_of_getElem? (i := 12) rfl)) (hw _ (List.mem_of_getElem? (i := 11) rfl)) (by decide) (by decide)) (g := (mkF m 136 #[.val (.int px), .val (.long (NN px)), .second, .val (.long (dg (NN px) 10000000)), .second, .val (.long (dg (NN px) 1000000)), .second, .val (.long (dg (NN px) 100000)), .second, .val (.long (dg (NN px) 10000)), .second, .val (.long (dg (NN px) 1000)), .second, .val (.long (dg (NN px) 100)), .second, .val (.long (dg (NN px) 10)), .second, .val (.long (dl (NN px))), .second, .unset, .unset] [(.int (6 : Int32)), (.long (dg (NN px) 10)), (.long ((((((F1_0 (dg (NN px) 10000000) (0 : Int32)) ||| (F1_0 (dg (NN px) 1000000) (1 : Int32))) ||| (F1_0 (dg (NN px) 100000) (2 : Int32))) ||| (F1_0 (dg (NN px) 10000) (3 : Int32))) ||| (F1_0 (dg (NN px) 1000) (4 : Int32))) ||| (F1_0 (dg (NN px) 100) (5 : Int32))))])) rfl (by rw [hml]; rfl) (argsL := [(.long (dg (NN px) 10)), (.int (6 : Int32))]) (rest := [(.long ((((((F1_0 (dg (NN px) 10000000) (0 : Int32)) ||| (F1_0 (dg (NN px) 1000000) (1 : Int32))) ||| (F1_0 (dg (NN px) 100000) (2 : Int32))) ||| (F1_0 (dg (NN px) 10000) (3 : Int32))) ||| (F1_0 (dg (NN px) 1000) (4 : Int32))) ||| (F1_0 (dg (NN px) 100) (5 : Int32))))]) (lenOf pd0 rfl) rfl (by show 2 * 0 + _ ≤ _; exact Nat.le_of_eq rfl) (hb hby at_136) (fun _ _ => ⟨rfl, e7, (by decide : 0 + 0 ≤ _), (by decide : 0 + 0 ≤ _)⟩)
  dsimp only [Pt.U, Pt.locs, Pt.cells, Pt.slots] at X8 l8 y8 z8 st8 hQ8
  subst l8 y8 z8
  obtain ⟨rfl, N8q, e8⟩ := hQ8
  have N8 := Fr.app N7 N8q
  refine Go.via st8 ?_
  show Go p.tables e below _ (T8.setTop (mkF m 139 #[.val (.int px), .val (.long (NN px)), .second, .val (.long (dg (NN px) 10000000)), .second, .val (.long (dg (NN px) 1000000)), .second, .val (.long (dg (NN px) 100000)), .second, .val (.long (dg (NN px) 10000)), .second, .val (.long (dg (NN px) 1000)), .second, .val (.long (dg (NN px) 100)), .second, .val (.long (dg (NN px) 10)), .second, .val (.long (dl (NN px))), .second, .unset, .unset] [(.long (F1_0 (dg (NN px) 10) (6 : Int32))), (.long ((((((F1_0 (dg (NN px) 10000000) (0 : Int32)) ||| (F1_0 (dg (NN px) 1000000) (1 : Int32))) ||| (F1_0 (dg (NN px) 100000) (2 : Int32))) ||| (F1_0 (dg (NN px) 10000) (3 : Int32))) ||| (F1_0 (dg (NN px) 1000) (4 : Int32))) ||| (F1_0 (dg (NN px) 100) (5 : Int32))))]))
  refine Go.via (B := T8.setTop (mkF m 144 #[.val (.int px), .val (.long (NN px)), .second, .val (.long (dg (NN px) 10000000)), .second, .val (.long (dg (NN px) 1000000)), .second, .val (.long (dg (NN px) 100000)), .second, .val (.long (dg (NN px) 10000)), .second, .val (.long (dg (NN px) 1000)), .second, .val (.long (dg (NN px) 100)), .second, .val (.long (dg (NN px) 10)), .second, .val (.long (dl (NN px))), .second, .unset, .unset] [(.int (7 : Int32)), (.long (dl (NN px))), (.long (((((((F1_0 (dg (NN px) 10000000) (0 : Int32)) ||| (F1_0 (dg (NN px) 1000000) (1 : Int32))) ||| (F1_0 (dg (NN px) 100000) (2 : Int32))) ||| (F1_0 (dg (NN px) 10000) (3 : Int32))) ||| (F1_0 (dg (NN px) 1000) (4 : Int32))) ||| (F1_0 (dg (NN px) 100) (5 : Int32))) ||| (F1_0 (dg (NN px) 10) (6 : Int32))))])) (fun t_ k_ => ?_) ?_
  · show Steps p.tables e below (T8.setTop (mkF m 139 #[.val (.int px), .val (.long (NN px)), .second, .val (.long (dg (NN px) 10000000)), .second, .val (.long (dg (NN px) 1000000)), .second, .val (.long (dg (NN px) 100000)), .second, .val (.long (dg (NN px) 10000)), .second, .val (.long (dg (NN px) 1000)), .second, .val (.long (dg (NN px) 100)), .second, .val (.long (dg (NN px) 10)), .second, .val (.long (dl (NN px))), .second, .unset, .unset] [(.long (F1_0 (dg (NN px) 10) (6 : Int32))), (.long ((((((F1_0 (dg (NN px) 10000000) (0 : Int32)) ||| (F1_0 (dg (NN px) 1000000) (1 : Int32))) ||| (F1_0 (dg (NN px) 100000) (2 : Int32))) ||| (F1_0 (dg (NN px) 10000) (3 : Int32))) ||| (F1_0 (dg (NN px) 1000) (4 : Int32))) ||| (F1_0 (dg (NN px) 100) (5 : Int32))))])) t_
    refine XS.lor X8.here hx rfl (hb hby at_139) rfl ?_
    show Steps p.tables e below (T8.setTop (mkF m 140 #[.val (.int px), .val (.long (NN px)), .second, .val (.long (dg (NN px) 10000000)), .second, .val (.long (dg (NN px) 1000000)), .second, .val (.long (dg (NN px) 100000)), .second, .val (.long (dg (NN px) 10000)), .second, .val (.long (dg (NN px) 1000)), .second, .val (.long (dg (NN px) 100)), .second, .val (.long (dg (NN px) 10)), .second, .val (.long (dl (NN px))), .second, .unset, .unset] [(.long (((((((F1_0 (dg (NN px) 10000000) (0 : Int32)) ||| (F1_0 (dg (NN px) 1000000) (1 : Int32))) ||| (F1_0 (dg (NN px) 100000) (2 : Int32))) ||| (F1_0 (dg (NN px) 10000) (3 : Int32))) ||| (F1_0 (dg (NN px) 1000) (4 : Int32))) ||| (F1_0 (dg (NN px) 100) (5 : Int32))) ||| (F1_0 (dg (NN px) 10) (6 : Int32))))])) t_
    refine XS.lload X8.here hx rfl (hb hby at_140) rfl ?_
    show Steps p.tables e below (T8.setTop (mkF m 142 #[.val (.int px), .val (.long (NN px)), .second, .val (.long (dg (NN px) 10000000)), .second, .val (.long (dg (NN px) 1000000)), .second, .val (.long (dg (NN px) 100000)), .second, .val (.long (dg (NN px) 10000)), .second, .val (.long (dg (NN px) 1000)), .second, .val (.long (dg (NN px) 100)), .second, .val (.long (dg (NN px) 10)), .second, .val (.long (dl (NN px))), .second, .unset, .unset] [(.long (dl (NN px))), (.long (((((((F1_0 (dg (NN px) 10000000) (0 : Int32)) ||| (F1_0 (dg (NN px) 1000000) (1 : Int32))) ||| (F1_0 (dg (NN px) 100000) (2 : Int32))) ||| (F1_0 (dg (NN px) 10000) (3 : Int32))) ||| (F1_0 (dg (NN px) 1000) (4 : Int32))) ||| (F1_0 (dg (NN px) 100) (5 : Int32))) ||| (F1_0 (dg (NN px) 10) (6 : Int32))))])) t_
    refine XS.bipush X8.here hx rfl (hb hby at_142) ?_
    show Steps p.tables e below (T8.setTop (mkF m 144 #[.val (.int px), .val (.long (NN px)), .second, .val (.long (dg (NN px) 10000000)), .second, .val (.long (dg (NN px) 1000000)), .second, .val (.long (dg (NN px) 100000)), .second, .val (.long (dg (NN px) 10000)), .second, .val (.long (dg (NN px) 1000)), .second, .val (.long (dg (NN px) 100)), .second, .val (.long (dg (NN px) 10)), .second, .val (.long (dl (NN px))), .second, .unset, .unset] [(.int (7 : Int32)), (.long (dl (NN px))), (.long (((((((F1_0 (dg (NN px) 10000000) (0 : Int32)) ||| (F1_0 (dg (NN px) 1000000) (1 : Int32))) ||| (F1_0 (dg (NN px) 100000) (2 : Int32))) ||| (F1_0 (dg (NN px) 10000) (3 : Int32))) ||| (F1_0 (dg (NN px) 1000) (4 : Int32))) ||| (F1_0 (dg (NN px) 100) (5 : Int32))) ||| (F1_0 (dg (NN px) 10) (6 : Int32))))])) t_
    exact k_
  obtain ⟨_, _, ⟨T9, L9, k9, n9⟩, -, X9, ⟨Lc9, hQ9, l9, y9, z9⟩, st9⟩ := Jvm.LawKit.callS X8 hx (y := (⟨"es/quincena/records/EightBytesDigitsValuePinLaw", "place", "(JI)J"⟩ : MethodName)) hown (mvT hZ (hw _ (List.mem_of_getElem? (i := 9) rfl))) (mvT hZ (hw _ (List.mem_of_getElem? (i := 10) rfl))) (mvT hZ (hw _ (List.mem_of_getElem? (i := 11) rfl))) (mvT hZ (hw _ (List.mem_of_getElem? (i := 12) rfl))) (by decide) (backOf (W := 2) (rm1 l Z a0 hw [] (dl (NN px)) (7 : Int32)  h0 n0 Z0 ) hZ (hw _ (List.mem_of_getElem? (i := 12) rfl)) (hw _ (List.mem_of_getElem? (i := 11) rfl)) (by decide) (by decide)) (g := (mkF m 144 #[.val (.int px), .val (.long (NN px)), .second, .val (.long (dg (NN px) 10000000)), .second, .val (.long (dg (NN px) 1000000)), .second, .val (.long (dg (NN px) 100000)), .second, .val (.long (dg (NN px) 10000)), .second, .val (.long (dg (NN px) 1000)), .second, .val (.long (dg (NN px) 100)), .second, .val (.long (dg (NN px) 10)), .second, .val (.long (dl (NN px))), .second, .unset, .unset] [(.int (7 : Int32)), (.long (dl (NN px))), (.long (((((((F1_0 (dg (NN px) 10000000) (0 : Int32)) ||| (F1_0 (dg (NN px) 1000000) (1 : Int32))) ||| (F1_0 (dg (NN px) 100000) (2 : Int32))) ||| (F1_0 (dg (NN px) 10000) (3 : Int32))) ||| (F1_0 (dg (NN px) 1000) (4 : Int32))) ||| (F1_0 (dg (NN px) 100) (5 : Int32))) ||| (F1_0 (dg (NN px) 10) (6 : Int32))))])) rfl (by rw [hml]; rfl) (argsL := [(.long (dl (NN px))), (.int (7 : Int32))]) (rest := [(.long (((((((F1_0 (dg (NN px) 10000000) (0 : Int32)) ||| (F1_0 (dg (NN px) 1000000) (1 : Int32))) ||| (F1_0 (dg (NN px) 100000) (2 : Int32))) ||| (F1_0 (dg (NN px) 10000) (3 : Int32))) ||| (F1_0 (dg (NN px) 1000) (4 : Int32))) ||| (F1_0 (dg (NN px) 100) (5 : Int32))) ||| (F1_0 (dg (NN px) 10) (6 : Int32))))]) (lenOf pd0 rfl) rfl (by show 2 * 0 + _ ≤ _; exact Nat.le_of_eq rfl) (hb hby at_144) (fun _ _ => ⟨rfl, e8, (by decide : 0 + 0 ≤ _), (by decide : 0 + 0 ≤ _)⟩)
  dsimp only [Pt.U, Pt.locs, Pt.cells, Pt.slots] at X9 l9 y9 z9 st9 hQ9
  subst l9 y9 z9
  obtain ⟨rfl, N9q, e9⟩ := hQ9
  have N9 := Fr.app N8 N9q
  refine Go.via st9 ?_
  show Go p.tables e below _ (T9.setTop (mkF m 147 #[.val (.int px), .val (.long (NN px)), .second, .val (.long (dg (NN px) 10000000)), .second, .val (.long (dg (NN px) 1000000)), .second, .val (.long (dg (NN px) 100000)), .second, .val (.long (dg (NN px) 10000)), .second, .val (.long (dg (NN px) 1000)), .second, .val (.long (dg (NN px) 100)), .second, .val (.long (dg (NN px) 10)), .second, .val (.long (dl (NN px))), .second, .unset, .unset] [(.long (F1_0 (dl (NN px)) (7 : Int32))), (.long (((((((F1_0 (dg (NN px) 10000000) (0 : Int32)) ||| (F1_0 (dg (NN px) 1000000) (1 : Int32))) ||| (F1_0 (dg (NN px) 100000) (2 : Int32))) ||| (F1_0 (dg (NN px) 10000) (3 : Int32))) ||| (F1_0 (dg (NN px) 1000) (4 : Int32))) ||| (F1_0 (dg (NN px) 100) (5 : Int32))) ||| (F1_0 (dg (NN px) 10) (6 : Int32))))]))
  refine Go.via (B := T9.setTop (mkF m 150 #[.val (.int px), .val (.long (NN px)), .second, .val (.long (dg (NN px) 10000000)), .second, .val (.long (dg (NN px) 1000000)), .second, .val (.long (dg (NN px) 100000)), .second, .val (.long (dg (NN px) 10000)), .second, .val (.long (dg (NN px) 1000)), .second, .val (.long (dg (NN px) 100)), .second, .val (.long (dg (NN px) 10)), .second, .val (.long (dl (NN px))), .second, .val (.long ((((((((F1_0 (dg (NN px) 10000000) (0 : Int32)) ||| (F1_0 (dg (NN px) 1000000) (1 : Int32))) ||| (F1_0 (dg (NN px) 100000) (2 : Int32))) ||| (F1_0 (dg (NN px) 10000) (3 : Int32))) ||| (F1_0 (dg (NN px) 1000) (4 : Int32))) ||| (F1_0 (dg (NN px) 100) (5 : Int32))) ||| (F1_0 (dg (NN px) 10) (6 : Int32))) ||| (F1_0 (dl (NN px)) (7 : Int32)))), .second] [])) (fun t_ k_ => ?_) ?_
  · show Steps p.tables e below (T9.setTop (mkF m 147 #[.val (.int px), .val (.long (NN px)), .second, .val (.long (dg (NN px) 10000000)), .second, .val (.long (dg (NN px) 1000000)), .second, .val (.long (dg (NN px) 100000)), .second, .val (.long (dg (NN px) 10000)), .second, .val (.long (dg (NN px) 1000)), .second, .val (.long (dg (NN px) 100)), .second, .val (.long (dg (NN px) 10)), .second, .val (.long (dl (NN px))), .second, .unset, .unset] [(.long (F1_0 (dl (NN px)) (7 : Int32))), (.long (((((((F1_0 (dg (NN px) 10000000) (0 : Int32)) ||| (F1_0 (dg (NN px) 1000000) (1 : Int32))) ||| (F1_0 (dg (NN px) 100000) (2 : Int32))) ||| (F1_0 (dg (NN px) 10000) (3 : Int32))) ||| (F1_0 (dg (NN px) 1000) (4 : Int32))) ||| (F1_0 (dg (NN px) 100) (5 : Int32))) ||| (F1_0 (dg (NN px) 10) (6 : Int32))))])) t_
    refine XS.lor X9.here hx rfl (hb hby at_147) rfl ?_
    show Steps p.tables e below (T9.setTop (mkF m 148 #[.val (.int px), .val (.long (NN px)), .second, .val (.long (dg (NN px) 10000000)), .second, .val (.long (dg (NN px) 1000000)), .second, .val (.long (dg (NN px) 100000)), .second, .val (.long (dg (NN px) 10000)), .second, .val (.long (dg (NN px) 1000)), .second, .val (.long (dg (NN px) 100)), .second, .val (.long (dg (NN px) 10)), .second, .val (.long (dl (NN px))), .second, .unset, .unset] [(.long ((((((((F1_0 (dg (NN px) 10000000) (0 : Int32)) ||| (F1_0 (dg (NN px) 1000000) (1 : Int32))) ||| (F1_0 (dg (NN px) 100000) (2 : Int32))) ||| (F1_0 (dg (NN px) 10000) (3 : Int32))) ||| (F1_0 (dg (NN px) 1000) (4 : Int32))) ||| (F1_0 (dg (NN px) 100) (5 : Int32))) ||| (F1_0 (dg (NN px) 10) (6 : Int32))) ||| (F1_0 (dl (NN px)) (7 : Int32))))])) t_
    refine XS.lstore X9.here hx rfl (hb hby at_148) rfl (l' := #[.val (.int px), .val (.long (NN px)), .second, .val (.long (dg (NN px) 10000000)), .second, .val (.long (dg (NN px) 1000000)), .second, .val (.long (dg (NN px) 100000)), .second, .val (.long (dg (NN px) 10000)), .second, .val (.long (dg (NN px) 1000)), .second, .val (.long (dg (NN px) 100)), .second, .val (.long (dg (NN px) 10)), .second, .val (.long (dl (NN px))), .second, .val (.long ((((((((F1_0 (dg (NN px) 10000000) (0 : Int32)) ||| (F1_0 (dg (NN px) 1000000) (1 : Int32))) ||| (F1_0 (dg (NN px) 100000) (2 : Int32))) ||| (F1_0 (dg (NN px) 10000) (3 : Int32))) ||| (F1_0 (dg (NN px) 1000) (4 : Int32))) ||| (F1_0 (dg (NN px) 100) (5 : Int32))) ||| (F1_0 (dg (NN px) 10) (6 : Int32))) ||| (F1_0 (dl (NN px)) (7 : Int32)))), .second]) rfl ?_
    show Steps p.tables e below (T9.setTop (mkF m 150 #[.val (.int px), .val (.long (NN px)), .second, .val (.long (dg (NN px) 10000000)), .second, .val (.long (dg (NN px) 1000000)), .second, .val (.long (dg (NN px) 100000)), .second, .val (.long (dg (NN px) 10000)), .second, .val (.long (dg (NN px) 1000)), .second, .val (.long (dg (NN px) 100)), .second, .val (.long (dg (NN px) 10)), .second, .val (.long (dl (NN px))), .second, .val (.long ((((((((F1_0 (dg (NN px) 10000000) (0 : Int32)) ||| (F1_0 (dg (NN px) 1000000) (1 : Int32))) ||| (F1_0 (dg (NN px) 100000) (2 : Int32))) ||| (F1_0 (dg (NN px) 10000) (3 : Int32))) ||| (F1_0 (dg (NN px) 1000) (4 : Int32))) ||| (F1_0 (dg (NN px) 100) (5 : Int32))) ||| (F1_0 (dg (NN px) 10) (6 : Int32))) ||| (F1_0 (dl (NN px)) (7 : Int32)))), .second] [])) t_
    exact k_
  show Go p.tables e below _ (T9.setTop (mkF m 150 #[.val (.int px), .val (.long (NN px)), .second, .val (.long (dg (NN px) 10000000)), .second, .val (.long (dg (NN px) 1000000)), .second, .val (.long (dg (NN px) 100000)), .second, .val (.long (dg (NN px) 10000)), .second, .val (.long (dg (NN px) 1000)), .second, .val (.long (dg (NN px) 100)), .second, .val (.long (dg (NN px) 10)), .second, .val (.long (dl (NN px))), .second, .val (.long (EB (NN px))), .second] []))
  refine Go.via (B := T9.setTop (mkF m 152 #[.val (.int px), .val (.long (NN px)), .second, .val (.long (dg (NN px) 10000000)), .second, .val (.long (dg (NN px) 1000000)), .second, .val (.long (dg (NN px) 100000)), .second, .val (.long (dg (NN px) 10000)), .second, .val (.long (dg (NN px) 1000)), .second, .val (.long (dg (NN px) 100)), .second, .val (.long (dg (NN px) 10)), .second, .val (.long (dl (NN px))), .second, .val (.long (EB (NN px))), .second] [(.long (EB (NN px)))])) (fun t_ k_ => ?_) ?_
  · show Steps p.tables e below (T9.setTop (mkF m 150 #[.val (.int px), .val (.long (NN px)), .second, .val (.long (dg (NN px) 10000000)), .second, .val (.long (dg (NN px) 1000000)), .second, .val (.long (dg (NN px) 100000)), .second, .val (.long (dg (NN px) 10000)), .second, .val (.long (dg (NN px) 1000)), .second, .val (.long (dg (NN px) 100)), .second, .val (.long (dg (NN px) 10)), .second, .val (.long (dl (NN px))), .second, .val (.long (EB (NN px))), .second] [])) t_
    refine XS.lload X9.here hx rfl (hb hby at_150) rfl ?_
    show Steps p.tables e below (T9.setTop (mkF m 152 #[.val (.int px), .val (.long (NN px)), .second, .val (.long (dg (NN px) 10000000)), .second, .val (.long (dg (NN px) 1000000)), .second, .val (.long (dg (NN px) 100000)), .second, .val (.long (dg (NN px) 10000)), .second, .val (.long (dg (NN px) 1000)), .second, .val (.long (dg (NN px) 100)), .second, .val (.long (dg (NN px) 10)), .second, .val (.long (dl (NN px))), .second, .val (.long (EB (NN px))), .second] [(.long (EB (NN px)))])) t_
    exact k_
  obtain ⟨_, _, ⟨T10, L10, k10, n10⟩, -, X10, ⟨Lc10, hQ10, l10, y10, z10⟩, st10⟩ := Jvm.LawKit.callS X9 hx (y := (⟨"es/quincena/records/EightBytes", "digitsValue", "(J)J"⟩ : MethodName)) hown (mvT hZ (hw _ (List.mem_of_getElem? (i := 14) rfl))) (mvT hZ (hw _ (List.mem_of_getElem? (i := 15) rfl))) (mvT hZ (hw _ (List.mem_of_getElem? (i := 16) rfl))) (mvT hZ (hw _ (List.mem_of_getElem? (i := 17) rfl))) (by decide) (backOf (W := 0) (rm2 l Z a0 hw [] (EB (NN px))  h0 n0 Z0 S) hZ (hw _ (List.mem_of_getElem? (i := 17) rfl)) (hw _ (List.mem_of_getElem? (i := 16) rfl)) (by decide) (by decide)) (g := (mkF m 152 #[.val (.int px), .val (.long (NN px)), .second, .val (.long (dg (NN px) 10000000)), .second, .val (.long (dg (NN px) 1000000)), .second, .val (.long (dg (NN px) 100000)), .second, .val (.long (dg (NN px) 10000)), .second, .val (.long (dg (NN px) 1000)), .second, .val (.long (dg (NN px) 100)), .second, .val (.long (dg (NN px) 10)), .second, .val (.long (dl (NN px))), .second, .val (.long (EB (NN px))), .second] [(.long (EB (NN px)))])) rfl (by rw [hml]; rfl) (argsL := [(.long (EB (NN px)))]) (rest := []) (lenOf pd1 rfl) rfl (by show 2 * 0 + _ ≤ _; exact Nat.le_of_eq rfl) (hb hby at_152) (fun _ _ => ⟨rfl, e9, (by decide : 0 + 0 ≤ _), (by decide : 0 + 0 ≤ _)⟩)
  dsimp only [Pt.U, Pt.locs, Pt.cells, Pt.slots] at X10 l10 y10 z10 st10 hQ10
  subst l10 y10 z10
  obtain ⟨rfl, N10q, e10⟩ := hQ10
  have N10 := Fr.app N9 N10q
  refine Go.via st10 ?_
  show Go p.tables e below _ (T10.setTop (mkF m 155 #[.val (.int px), .val (.long (NN px)), .second, .val (.long (dg (NN px) 10000000)), .second, .val (.long (dg (NN px) 1000000)), .second, .val (.long (dg (NN px) 100000)), .second, .val (.long (dg (NN px) 10000)), .second, .val (.long (dg (NN px) 1000)), .second, .val (.long (dg (NN px) 100)), .second, .val (.long (dg (NN px) 10)), .second, .val (.long (dl (NN px))), .second, .val (.long (EB (NN px))), .second] [(.long (DV (EB (NN px))))]))
  refine Go.via (B := T10.setTop (mkF m 157 #[.val (.int px), .val (.long (NN px)), .second, .val (.long (dg (NN px) 10000000)), .second, .val (.long (dg (NN px) 1000000)), .second, .val (.long (dg (NN px) 100000)), .second, .val (.long (dg (NN px) 10000)), .second, .val (.long (dg (NN px) 1000)), .second, .val (.long (dg (NN px) 100)), .second, .val (.long (dg (NN px) 10)), .second, .val (.long (dl (NN px))), .second, .val (.long (EB (NN px))), .second] [(.int (lcmpW (DV (EB (NN px))) (NN px)))])) (fun t_ k_ => ?_) ?_
  · show Steps p.tables e below (T10.setTop (mkF m 155 #[.val (.int px), .val (.long (NN px)), .second, .val (.long (dg (NN px) 10000000)), .second, .val (.long (dg (NN px) 1000000)), .second, .val (.long (dg (NN px) 100000)), .second, .val (.long (dg (NN px) 10000)), .second, .val (.long (dg (NN px) 1000)), .second, .val (.long (dg (NN px) 100)), .second, .val (.long (dg (NN px) 10)), .second, .val (.long (dl (NN px))), .second, .val (.long (EB (NN px))), .second] [(.long (DV (EB (NN px))))])) t_
    refine XS.lloadN X10.here hx rfl (hb hby at_155) rfl ?_
    show Steps p.tables e below (T10.setTop (mkF m 156 #[.val (.int px), .val (.long (NN px)), .second, .val (.long (dg (NN px) 10000000)), .second, .val (.long (dg (NN px) 1000000)), .second, .val (.long (dg (NN px) 100000)), .second, .val (.long (dg (NN px) 10000)), .second, .val (.long (dg (NN px) 1000)), .second, .val (.long (dg (NN px) 100)), .second, .val (.long (dg (NN px) 10)), .second, .val (.long (dl (NN px))), .second, .val (.long (EB (NN px))), .second] [(.long (NN px)), (.long (DV (EB (NN px))))])) t_
    refine XS.lcmp X10.here hx rfl (hb hby at_156) rfl ?_
    show Steps p.tables e below (T10.setTop (mkF m 157 #[.val (.int px), .val (.long (NN px)), .second, .val (.long (dg (NN px) 10000000)), .second, .val (.long (dg (NN px) 1000000)), .second, .val (.long (dg (NN px) 100000)), .second, .val (.long (dg (NN px) 10000)), .second, .val (.long (dg (NN px) 1000)), .second, .val (.long (dg (NN px) 100)), .second, .val (.long (dg (NN px) 10)), .second, .val (.long (dl (NN px))), .second, .val (.long (EB (NN px))), .second] [(.int (lcmpW (DV (EB (NN px))) (NN px)))])) t_
    exact k_
  refine Go.via (B := T10.setTop (mkF m 160 #[.val (.int px), .val (.long (NN px)), .second, .val (.long (dg (NN px) 10000000)), .second, .val (.long (dg (NN px) 1000000)), .second, .val (.long (dg (NN px) 100000)), .second, .val (.long (dg (NN px) 10000)), .second, .val (.long (dg (NN px) 1000)), .second, .val (.long (dg (NN px) 100)), .second, .val (.long (dg (NN px) 10)), .second, .val (.long (dl (NN px))), .second, .val (.long (EB (NN px))), .second] [])) (fun t_ k_ => XS.ifNo X10.here hx rfl (hb hby at_157) rfl (((if0 _ _).trans (teq ((lw_eq _ _).mpr (own_main px))).2)) k_) ?_
  refine Go.via (B := T10.setTop (mkF m 165 #[.val (.int px), .val (.long (NN px)), .second, .val (.long (dg (NN px) 10000000)), .second, .val (.long (dg (NN px) 1000000)), .second, .val (.long (dg (NN px) 100000)), .second, .val (.long (dg (NN px) 10000)), .second, .val (.long (dg (NN px) 1000)), .second, .val (.long (dg (NN px) 100)), .second, .val (.long (dg (NN px) 10)), .second, .val (.long (dl (NN px))), .second, .val (.long (EB (NN px))), .second] [(.int (1 : Int32))])) (fun t_ k_ => ?_) ?_
  · show Steps p.tables e below (T10.setTop (mkF m 160 #[.val (.int px), .val (.long (NN px)), .second, .val (.long (dg (NN px) 10000000)), .second, .val (.long (dg (NN px) 1000000)), .second, .val (.long (dg (NN px) 100000)), .second, .val (.long (dg (NN px) 10000)), .second, .val (.long (dg (NN px) 1000)), .second, .val (.long (dg (NN px) 100)), .second, .val (.long (dg (NN px) 10)), .second, .val (.long (dl (NN px))), .second, .val (.long (EB (NN px))), .second] [])) t_
    refine XS.iconst X10.here hx rfl (hb hby at_160) ?_
    show Steps p.tables e below (T10.setTop (mkF m 161 #[.val (.int px), .val (.long (NN px)), .second, .val (.long (dg (NN px) 10000000)), .second, .val (.long (dg (NN px) 1000000)), .second, .val (.long (dg (NN px) 100000)), .second, .val (.long (dg (NN px) 10000)), .second, .val (.long (dg (NN px) 1000)), .second, .val (.long (dg (NN px) 100)), .second, .val (.long (dg (NN px) 10)), .second, .val (.long (dl (NN px))), .second, .val (.long (EB (NN px))), .second] [(.int (1 : Int32))])) t_
    refine XS.goto X10.here hx rfl (pc0 := 161) (pc' := 165) rfl (hb hby at_161) (by decide) (by decide) ?_
    show Steps p.tables e below (T10.setTop (mkF m 165 #[.val (.int px), .val (.long (NN px)), .second, .val (.long (dg (NN px) 10000000)), .second, .val (.long (dg (NN px) 1000000)), .second, .val (.long (dg (NN px) 100000)), .second, .val (.long (dg (NN px) 10000)), .second, .val (.long (dg (NN px) 1000)), .second, .val (.long (dg (NN px) 100)), .second, .val (.long (dg (NN px) 10)), .second, .val (.long (dl (NN px))), .second, .val (.long (EB (NN px))), .second] [(.int (1 : Int32))])) t_
    exact k_
  exact Go.leave X10 hlk (v := (some (.int (1 : Int32)))) (fun h => by rw [hrt] at h; cases h) (fun fs hr => retN X10 hx (t := .boolean) hrt (by simp) (hb hby at_165) hr) (by decide) (by decide) (⟨rfl, N10⟩)
set_option maxRecDepth 65536 in
set_option maxHeartbeats 40000000 in
theorem comes_1 {Post : Tables → Env → Array Value → State → Outcome → State → Prop} (hpost : ∀ tb e args s v u, (limb_1_1.after args s (.returned v) u = true ∧ limb_1_2.after args s (.returned v) u = true ∧ True) → FrameEnd s (.returned v) u (Jvm.fieldLocs frame_1_writes args s ++ Jvm.arrayLocs frame_1_arrays args s ++ Jvm.staticLocs frame_1_statics s) 0 0 → Post tb e args s (.returned v) u) :
    ArmFor flags0 classFile x code maxLocals ret World_1 tables_1 room_1 Calls_1 rest_1 Pre_1 Post := by
  intro l hfl _ _ p e ha hc hk s m args below hf hA hF happ hP
  obtain ⟨hcalls, hrest, hpre⟩ := hP
  obtain ⟨-, -, -, hnamed, -, -, -, hat⟩ := (Spec.applies_iff hf).mp happ
  obtain ⟨hg, hn⟩ := and_e (Cond.before_iff.mp (show (Jvm.Cond.and given_1 narrow_1).before args s = true from hpre))
  obtain ⟨hcount, hg0⟩ := and_e hg
  have ha0 := hg0
  obtain ⟨w0, rfl⟩ : ∃ w0 : Value, args = #[w0] := by
    have hs : args.size = 1 := by simpa [Cond.value, given_1] using hcount
    obtain ⟨L⟩ := args
    match L, hs with
    | [w0], _ => exact ⟨w0, rfl⟩
  have hw := fun d (hd : d ∈ tables_1) => atoms_spec (ws := Jvm.Cond.code x code maxLocals ret :: tables_1) hat d (List.mem_cons_of_mem _ hd)
  have hfit : Fit s := fun {y c} hc i hi => by
    obtain ⟨ha, rfl⟩ := Array.getElem?_eq_some_iff.mp hc
    have q := List.all_eq_true.mp ((Array.all_eq_true_iff_forall_mem.mp hF) _ (Array.getElem_mem ha)) i (List.mem_range.mpr hi)
    simpa [Array.getElem?_eq_getElem hi] using q
  obtain ⟨i0, ei0⟩ := is_v ha0
  obtain rfl : w0 = (.int i0) := Option.some.inj ei0
  have hS : Sta s s.heap "es/quincena/records/EightBytes" "ZEROS" "J" (.long (3472328296227680304 : Int64)) := by
    obtain ⟨v, hv, hf⟩ := static_fit hfit (hw _ (List.mem_of_getElem? (i := 19) rfl)) (ty := .long) (by decide)
    obtain ⟨z, rfl⟩ := fit_J hf
    have hz := gotT (eq_L hv (long_at _)) hn
    subst hz
    exact Sta.start hv (Or.inr ⟨(hw _ (List.mem_of_getElem? (i := 16) rfl)), (hw _ (List.mem_of_getElem? (i := 19) rfl))⟩)
  obtain ⟨n, o, h1, h2, h3, _, L, rfl, ⟨rfl, N⟩, hq⟩ := rm0 l s _ hw tables_1 i0  s.heap s.heap.size (Nat.le_refl _) hS p e ha hc hk s m _ below hf ((Spec.applies_iff_loose hf).mp happ).1 ⟨rfl, State.Warmed39.refl s, rfl⟩ trivial
  refine ⟨n, _, h1, h2, h3, hpost _ _ _ _ _ _ ⟨Cond.after_iff.mpr rfl, Cond.after_iff.mpr (eq_i res_at (Term.int_eval (1)) rfl), trivial⟩ ⟨hq.1, hq.2.1, (hq.2.2.sift fun y hy => Or.inr (N y hy)).mono (by decide) (by decide)⟩⟩
theorem main_1_1 : Claimed_1_1 := comes_1 fun _ _ _ _ _ _ h hF => ⟨h.1, hF⟩
theorem main_1_2 : Claimed_1_2 := comes_1 fun _ _ _ _ _ _ h hF => ⟨h.2.1, hF⟩
end Jvm.Pilot.@@N@@
namespace Jvm.Pilot.@@N@@
open Jvm Jvm.ClassFile Sem Op Lib Jvm.Free Jvm.Stand Jvm.Pilot.@@N@@.Jvm.D
/-! MADE BY PROGRAM (witnessworld.py) out of the Statement's table words and the real class files: 9 classes; the members and pool entries that the words name. The judged class is class 1, her method 2. -/
namespace start1
open Jvm.ClassFile
def u (s : String) : CpInfo := .utf8 (stringToUtf16 s)
/-- a pool by its gaps: so many unusable entries, then the entry; so many at the end -/
def gap : Nat → List CpInfo → List CpInfo
  | 0, r => r
  | n + 1, r => .unusable :: gap n r
def poolList (es : List (Nat × CpInfo)) (last : Nat) : List CpInfo := es.foldr (fun e r => gap e.1 (e.2 :: r)) (gap last [])
def pool (es : List (Nat × CpInfo)) (last : Nat) : Array CpInfo := ⟨poolList es last⟩
def fileOf (pool : Array CpInfo) (this : Nat) (attrs : Array Attribute := #[]) (ms : Array MethodInfo := #[]) (fl : Nat := 33) (sup : Nat := 0) (ifs : Array Nat := #[]) (fds : Array FieldInfo := #[]) : ClassFile where
  minorVersion := 0
  majorVersion := 65
  constantPool := pool
  accessFlags := fl
  thisClass := this
  superClass := sup
  interfaces := ifs
  fields := fds
  methods := ms
  attributes := attrs
def plain (name : String) (sup : Option ClassId) : Class where
  name := name
  kind := .ordinary
  loader := none
  accessFlags := 33
  super := sup
  interfaces := #[]
  cf := none
  fields := #[]
  methods := #[]
  instanceTypes := #[]
  staticTypes := #[]
  resolved := #[]
  callSites := []
  init := .initialized
  statics := none
  mirror := none

def pool0 : Array CpInfo := pool [(5, u "<init>"), (0, u "()V"), (1, .class_ 10), (1, u "java/lang/Object")] 113

def k0m0 : Method := { name := "<init>", desc := "()V", sig := { parameters := [], returnType := none }, accessFlags := 1, code := none }
/-- java/lang/Object -/
def k0 : Class := { plain "java/lang/Object" none with
  accessFlags := 33
  interfaces := #[]
  cf := some (fileOf pool0 8 #[] #[{ accessFlags := 1, nameIndex := 5, descriptorIndex := 6, attributes := #[] }] 33 0 #[] #[])
  fields := #[]
  methods := #[k0m0]
  instanceTypes := #[]
  staticTypes := #[]
  resolved := Array.replicate 124 none
  statics := none }

def pool1 : Array CpInfo := pool [(2, .class_ 4), (1, u "java/lang/Object"), (0, u "<init>"), (0, u "()V"), (0, .long 48), (1, .integer 2147483647), (0, .integer 100000000), (0, .long 10000000), (1, .long 10), (1, .long 1000000), (1, .long 100000), (1, .long 10000), (1, .long 1000), (1, .long 100), (1, .methodref 26 27), (0, .class_ 28), (0, .nameAndType 29 30), (0, u "es/quincena/records/EightBytesDigitsValuePinLaw"), (0, u "place"), (0, u "(JI)J"), (0, .methodref 32 33), (0, .class_ 34), (0, .nameAndType 35 36), (0, u "es/quincena/records/EightBytes"), (0, u "digitsValue"), (0, u "(J)J"), (2, u "law"), (0, u "(I)Z")] 3

def k1m0 : Method := { name := "<init>", desc := "()V", sig := { parameters := [], returnType := none }, accessFlags := 1, code := none }
def k1c1 : Code := { maxStack := 4, maxLocals := 3, code := method_2_code, exceptionTable := #[], attributes := #[] }
def k1m1 : Method := { name := "place", desc := "(JI)J", sig := { parameters := [.long, .int], returnType := some .long }, accessFlags := 10, code := some k1c1 }
def k1c2 : Code := { maxStack := 5, maxLocals := 21, code := code, exceptionTable := #[], attributes := #[] }
def k1m2 : Method := { name := "law", desc := "(I)Z", sig := { parameters := [.int], returnType := some .boolean }, accessFlags := 9, code := some k1c2 }
/-- es/quincena/records/EightBytesDigitsValuePinLaw -/
def k1 : Class := { plain "es/quincena/records/EightBytesDigitsValuePinLaw" (some 0) with
  accessFlags := 49
  interfaces := #[]
  cf := some (fileOf pool1 26 #[] #[{ accessFlags := 1, nameIndex := 5, descriptorIndex := 6, attributes := #[] }, { accessFlags := 10, nameIndex := 29, descriptorIndex := 30, attributes := #[] }, { accessFlags := 9, nameIndex := 39, descriptorIndex := 40, attributes := #[] }] 49 2 #[] #[])
  fields := #[]
  methods := #[k1m0, k1m1, k1m2]
  instanceTypes := #[]
  staticTypes := #[]
  resolved := Array.replicate 44 none
  statics := none }

def pool2 : Array CpInfo := pool [(3, .class_ 4), (0, u "es/quincena/records/EightBytes"), (1, .class_ 8), (1, u "java/lang/Object"), (0, u "<init>"), (0, u "()V"), (46, u "(J)J"), (16, u "HIGH_NIBBLES"), (0, u "J"), (0, .fieldref 3 77), (0, .nameAndType 78 75), (0, u "ZEROS"), (2, u "SIXES"), (2, u "SPACES"), (6, u "DELETES"), (0, .long 10), (1, .long 71777214294589695), (1, .long 100), (1, .long 281470681808895), (1, .long 10000), (1, .long 4294967295), (19, u "digitsValue"), (2, u "HIGH_BITS"), (0, u "LENGTH"), (0, u "I"), (2, u "ONES"), (0, u "EIGHT_PLACES"), (0, u "SIXTEEN_PLACES")] 31

def k2m0 : Method := { name := "<init>", desc := "()V", sig := { parameters := [], returnType := none }, accessFlags := 2, code := none }
def k2c1 : Code := { maxStack := 5, maxLocals := 8, code := prog_148_method_10_code, exceptionTable := #[], attributes := #[] }
def k2m1 : Method := { name := "digitsValue", desc := "(J)J", sig := { parameters := [.long], returnType := some .long }, accessFlags := 9, code := some k2c1 }
/-- es/quincena/records/EightBytes -/
def k2 : Class := { plain "es/quincena/records/EightBytes" (some 0) with
  accessFlags := 49
  interfaces := #[]
  cf := some (fileOf pool2 3 #[] #[{ accessFlags := 2, nameIndex := 9, descriptorIndex := 10, attributes := #[] }, { accessFlags := 9, nameIndex := 122, descriptorIndex := 57, attributes := #[] }] 49 6 #[] #[{ accessFlags := 25, nameIndex := 126, descriptorIndex := 127, attributes := #[] }, { accessFlags := 26, nameIndex := 130, descriptorIndex := 75, attributes := #[] }, { accessFlags := 26, nameIndex := 125, descriptorIndex := 75, attributes := #[] }, { accessFlags := 26, nameIndex := 74, descriptorIndex := 75, attributes := #[] }, { accessFlags := 26, nameIndex := 78, descriptorIndex := 75, attributes := #[] }, { accessFlags := 26, nameIndex := 81, descriptorIndex := 75, attributes := #[] }, { accessFlags := 26, nameIndex := 84, descriptorIndex := 75, attributes := #[] }, { accessFlags := 26, nameIndex := 91, descriptorIndex := 75, attributes := #[] }, { accessFlags := 26, nameIndex := 131, descriptorIndex := 75, attributes := #[] }, { accessFlags := 26, nameIndex := 132, descriptorIndex := 75, attributes := #[] }])
  fields := #[{ name := "LENGTH", type := .int, accessFlags := 25, slot := 0, constantValue := 0 }, { name := "ONES", type := .long, accessFlags := 26, slot := 1, constantValue := 0 }, { name := "HIGH_BITS", type := .long, accessFlags := 26, slot := 2, constantValue := 0 }, { name := "HIGH_NIBBLES", type := .long, accessFlags := 26, slot := 3, constantValue := 0 }, { name := "ZEROS", type := .long, accessFlags := 26, slot := 4, constantValue := 0 }, { name := "SIXES", type := .long, accessFlags := 26, slot := 5, constantValue := 0 }, { name := "SPACES", type := .long, accessFlags := 26, slot := 6, constantValue := 0 }, { name := "DELETES", type := .long, accessFlags := 26, slot := 7, constantValue := 0 }, { name := "EIGHT_PLACES", type := .long, accessFlags := 26, slot := 8, constantValue := 0 }, { name := "SIXTEEN_PLACES", type := .long, accessFlags := 26, slot := 9, constantValue := 0 }]
  methods := #[k2m0, k2m1]
  instanceTypes := #[]
  staticTypes := #[.int, .long, .long, .long, .long, .long, .long, .long, .long, .long]
  resolved := Array.replicate 164 none
  statics := some 0 }

def pool3 : Array CpInfo := pool [(1, u "java/lang/Cloneable"), (0, .class_ 1), (0, u "java/lang/Object"), (0, .class_ 3)] 3

/-- java/lang/Cloneable -/
def k3 : Class := { plain "java/lang/Cloneable" (some 0) with
  accessFlags := 1537
  interfaces := #[]
  cf := some (fileOf pool3 2 #[] #[] 1537 4 #[] #[])
  fields := #[]
  methods := #[]
  instanceTypes := #[]
  staticTypes := #[]
  resolved := Array.replicate 8 none
  statics := none }

def pool4 : Array CpInfo := pool [(1, u "java/io/Serializable"), (0, .class_ 1), (0, u "java/lang/Object"), (0, .class_ 3)] 3

/-- java/io/Serializable -/
def k4 : Class := { plain "java/io/Serializable" (some 0) with
  accessFlags := 1537
  interfaces := #[]
  cf := some (fileOf pool4 2 #[] #[] 1537 4 #[] #[])
  fields := #[]
  methods := #[]
  instanceTypes := #[]
  staticTypes := #[]
  resolved := Array.replicate 8 none
  statics := none }

/-- the primitive byte -/
def k5 : Class := { plain "byte" none with kind := .primitive 'B', accessFlags := 0x411 }
/-- [B -/
def k6 : Class := { plain "[B" (some 0) with kind := .array 5 .byte, interfaces := #[3, 4], accessFlags := 1041 }

/-- the primitive int -/
def k7 : Class := { plain "int" none with kind := .primitive 'I', accessFlags := 0x411 }
/-- [I -/
def k8 : Class := { plain "[I" (some 0) with kind := .array 7 .int, interfaces := #[3, 4], accessFlags := 1041 }

def heap : Heap := #[{ cls := 2, slots := #[.int 0, .long 0, .long 0, .long 0, .long 3472328296227680304, .long 0, .long 0, .long 0, .long 0, .long 0], vm := .statics 2 }]
def classes : Array Class := #[k0, k1, k2, k3, k4, k5, k6, k7, k8]
def interned : List (Array UInt16 × Addr) := []
def slotsUsed : Nat := 10
def theMethod : MethodId := ⟨1, 2⟩
def args0 : Array Value := #[.int 5]
def aboutOver (below : List Frame) : State where
  vm := { classes := classes, interned := interned.toArray }
  heap := heap
  slotsUsed := slotsUsed
  threads := #[{ frames := .invoking theMethod args0 :: below }]
def below0 : List Frame := [.native { method := ⟨0, 0⟩, args := #[] }]
def about1 : State := aboutOver below0
def p0 : Program := .bare "" "" ""
def e0 : Env := launch0.env 0 0 0
theorem w_frames : about1.frames = Frame.invoking theMethod args0 :: below0 := rfl
set_option maxRecDepth 65536 in
theorem w_args : argsFit about1.vm theMethod args0 = true := by decide +kernel
set_option maxRecDepth 65536 in
theorem w_heap : heapFits about1 = true := by decide +kernel
set_option maxRecDepth 65536 in
theorem w_runnable : about1.curStatus? = some .runnable := by decide +kernel
set_option maxRecDepth 65536 in
theorem w_alone : about1.alone = true := by decide +kernel
set_option maxRecDepth 65536 in
theorem w_named : about1.methodNamed? x = some theMethod := by decide +kernel
set_option maxRecDepth 65536 in
theorem w_hears : about1.hears theMethod below0 = true := by decide +kernel
set_option maxRecDepth 65536 in
theorem w_ripe : about1.ripe theMethod args0 below0 = true := by decide +kernel
theorem w_running : about1.status = .running := rfl
set_option maxRecDepth 65536 in
theorem w_room : about1.hasRoom e0.platform room_1 = true :=
  launch0.hasRoom_least _ room_1 (by decide +kernel) (by decide +kernel) (by decide +kernel) (by decide +kernel) (by decide +kernel) (by decide +kernel)
theorem allAtoms_all (ts : List Jvm.Cond) (a : Array Jvm.Value) (st : Jvm.State) : (allAtoms ts).before a st = ts.all (fun c => c.before a st) := by
  induction ts with
  | nil => rfl
  | cons c t ih =>
    show (Jvm.Cond.and c (allAtoms t)).before a st = _
    rw [Jvm.Cond.before_and, ih, List.all_cons]
def words1 : List Jvm.Cond := Jvm.Cond.code x code maxLocals ret :: tables_1
/-- a 'code' word, met by the world's own term for the bytes: nothing is compared byte by byte -/
theorem code_word {y : MethodName} {bytes : ByteArray} {mx : Nat} {rt : Option FieldType} {a : Array Value} {s : State} {m : MethodId} {meth : Method} {c : Code} (h1 : s.methodNamed? y = some m) (h2 : s.vm.method? m = some meth) (h3 : meth.code = some c) (h4 : c.code = bytes)
    (h5 : (c.maxLocals == mx && c.exceptionTable.isEmpty && decide (c.maxStack ≤ mostOperands) && decide (meth.sig.returnType = rt) && !meth.locks && decide (parseMethodDescriptor y.desc = some meth.sig)) = true) : (Jvm.Cond.code y bytes mx rt).before a s = true := by
  simp only [Bool.and_eq_true, beq_iff_eq, Bool.not_eq_true', decide_eq_true_eq] at h5
  obtain ⟨⟨⟨⟨⟨g1, g2⟩, g3⟩, g4⟩, g5⟩, g6⟩ := h5
  simp [Cond.before, Cond.holds, Cond.value, h1, h2, h3, h4, g1, g2, g3, g4, g5, g6]
def isCode : Jvm.Cond → Bool
  | .code _ _ _ _ => true
  | _ => false
theorem all_split {L : List Jvm.Cond} {P : Jvm.Cond → Bool} (h1 : L.all (fun c => isCode c || P c) = true) (h2 : ∀ c ∈ L.filter isCode, P c = true) : L.all P = true := by
  refine List.all_eq_true.mpr fun c hc => ?_
  have h := List.all_eq_true.mp h1 c hc
  rcases Bool.eq_false_or_eq_true (isCode c) with hi | hi
  · exact h2 c (List.mem_filter.mpr ⟨hc, hi⟩)
  · simpa [hi] using h
set_option maxRecDepth 65536 in
theorem w_c0 : (Jvm.Cond.code x code maxLocals ret).before args0 about1 = true := code_word (m := ⟨1, 2⟩) (meth := k1m2) (c := k1c2) (by decide +kernel) rfl rfl rfl (by decide +kernel)
set_option maxRecDepth 65536 in
theorem w_c1 : (Jvm.Cond.code ({ cls := "es/quincena/records/EightBytesDigitsValuePinLaw", name := "place", desc := "(JI)J" } : Jvm.MethodName) method_2_code (3 : Nat) (Option.some Jvm.ClassFile.FieldType.long)).before args0 about1 = true := code_word (m := ⟨1, 1⟩) (meth := k1m1) (c := k1c1) (by decide +kernel) rfl rfl rfl (by decide +kernel)
set_option maxRecDepth 65536 in
theorem w_c2 : (Jvm.Cond.code ({ cls := "es/quincena/records/EightBytes", name := "digitsValue", desc := "(J)J" } : Jvm.MethodName) prog_148_method_10_code (8 : Nat) (Option.some Jvm.ClassFile.FieldType.long)).before args0 about1 = true := code_word (m := ⟨2, 1⟩) (meth := k2m1) (c := k2c1) (by decide +kernel) rfl rfl rfl (by decide +kernel)
def codes1 : List Jvm.Cond := [Jvm.Cond.code x code maxLocals ret, Jvm.Cond.code ({ cls := "es/quincena/records/EightBytesDigitsValuePinLaw", name := "place", desc := "(JI)J" } : Jvm.MethodName) method_2_code (3 : Nat) (Option.some Jvm.ClassFile.FieldType.long), Jvm.Cond.code ({ cls := "es/quincena/records/EightBytes", name := "digitsValue", desc := "(J)J" } : Jvm.MethodName) prog_148_method_10_code (8 : Nat) (Option.some Jvm.ClassFile.FieldType.long)]
set_option maxRecDepth 65536 in
theorem codes_eq : words1.filter isCode = codes1 := rfl
theorem w_codes : ∀ c ∈ words1.filter isCode, c.before args0 about1 = true := by
  rw [codes_eq]
  intro c hc
  simp only [codes1, List.mem_cons, List.not_mem_nil, or_false] at hc
  rcases hc with rfl | rfl | rfl
  · exact w_c0
  · exact w_c1
  · exact w_c2
set_option maxRecDepth 65536 in
theorem w_t1 : (words1.take 24).all (fun c => isCode c || c.before args0 about1) = true := by decide +kernel
set_option maxRecDepth 65536 in
theorem w_t2 : (words1.drop 24).all (fun c => isCode c || c.before args0 about1) = true := by decide +kernel
theorem w_tables : (allAtoms (Jvm.Cond.code x code maxLocals ret :: tables_1)).before args0 about1 = true := by
  rw [allAtoms_all]
  show words1.all (fun c => c.before args0 about1) = true
  refine all_split ?_ w_codes
  rw [← List.take_append_drop 24 words1, List.all_append, w_t1, w_t2]
  rfl
set_option maxRecDepth 65536 in
theorem w_case : (Jvm.Cond.and given_1 narrow_1).before args0 about1 = true := by decide +kernel
theorem w_applies : (headSpec (Jvm.Cond.code x code maxLocals ret :: tables_1) room_1).applies x e0.platform about1 = true :=
  (Spec.applies_iff w_frames).mpr ⟨w_running, w_runnable, w_alone, w_named, w_hears, w_ripe, w_room, w_tables⟩
theorem atStart : AtStart classFile x code maxLocals ret World_1 tables_1 room_1 Calls_1 rest_1 Pre_1 launch0 p0 e0 about1 theMethod args0 below0 :=
  ⟨lists_1, trivial, launch0.admits_env _ _ _, launch0.least_env, fairChoices_fair.cas, fairChoices_fair.clock, w_frames, w_args, w_heap, w_applies, trivial, trivial, w_case⟩
end start1
theorem witness_1 : WitnessClaimed_1 := ⟨start1.p0, start1.e0, start1.about1, start1.theMethod, start1.args0, start1.below0, start1.atStart⟩
end Jvm.Pilot.@@N@@
