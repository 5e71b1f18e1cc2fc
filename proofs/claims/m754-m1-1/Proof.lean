import JvmDerived
import JvmDerived.Pilot.@@N@@Statement
import JvmDerived.Pilot.@@N@@Code
set_option linter.unusedVariables false
set_option linter.unusedSimpArgs false
namespace Jvm.RoadKit
open Sem ClassFile Op Lib Jvm.Stand Jvm.Free Jvm.LawKit
section New
variable {p : Program} {l : Launch} {e : Env} {R : Room} {s : State} {m : MethodId} {args : Array Value} {below : List Frame} {meth : Method} {c : Code} {T : State} {locs : List Loc} {cells slots : Nat}
theorem retI (X : Stand p l e R s m args below meth c T locs cells slots) (hx : p.tables.exec = Jvm.exec) {pc : Nat} {Ls : Array Slot} {z : Int32} {rest : List Value} (hret : meth.sig.returnType = some .int) (hd : decode c.code pc = .ok (.ireturn, 1)) {fs : List Frame}
    (hl : ∀ (f : JFrame) (acts : List Action), f.method = m → f.locked = none → f.entered = [] → (doReturn e (T.setTop f) acts (some (.int z))).1 = T.setFrames fs) : Steps p.tables e below (T.setTop (mkF m pc Ls (.int z :: rest))) (T.setFrames fs) := by
  have hm' : T.vm.method? m = some meth := X.method'
  have hn : narrow .int (.int z) = .int z := rfl
  show Steps p.tables e below (T.setTop { method := m, pc := pc, locals := Ls, stack := _ :: rest, locked := none }) _
  jvm_step X.here [X.here.top, hx, hd, hm', hret, hn]
  first | (intro acts; rw [hl _ acts rfl rfl rfl]) | rw [hl _ _ rfl rfl rfl]
  exact Steps.refl _
theorem retA (X : Stand p l e R s m args below meth c T locs cells slots) (hx : p.tables.exec = Jvm.exec) {pc : Nat} {Ls : Array Slot} {a : Addr} {t : FieldType} {rest : List Value} (hret : meth.sig.returnType = some t) (ht : t.isReference = true) (hn : narrow t (.ref a) = .ref a) (hd : decode c.code pc = .ok (.areturn, 1)) {fs : List Frame}
    (hl : ∀ (f : JFrame) (acts : List Action), f.method = m → f.locked = none → f.entered = [] → (doReturn e (T.setTop f) acts (some (.ref a))).1 = T.setFrames fs) : Steps p.tables e below (T.setTop (mkF m pc Ls (.ref a :: rest))) (T.setFrames fs) :=
  retOut X hx hret hn (Or.inr (Or.inr (Or.inr (Or.inr ⟨rfl, ht, rfl⟩)))) hd hl
def Gd (tb : Tables) (e : Env) (below : List Frame) (P : State → Outcome → Prop) (A : State) : Prop := ∃ t o, Steps tb e below A t ∧ P t o
theorem Gd.out {tb : Tables} {P : State → Outcome → Prop} {A : State} (h : Gd tb e below P A) : ∃ t o, Steps tb e below A t ∧ P t o := h
theorem Gd.st {tb : Tables} {P : State → Outcome → Prop} {A B : State} (h : ∀ t, Steps tb e below B t → Steps tb e below A t) (k : Gd tb e below P B) : Gd tb e below P A := by
  obtain ⟨t, o, k1, k2⟩ := k; exact ⟨t, o, h t k1, k2⟩
theorem Gd.join {tb : Tables} {P : State → Outcome → Prop} {A B : State} (h : Gd tb e below P B → Gd tb e below P A) (k : Gd tb e below P B) : Gd tb e below P A := h k
theorem Gd.mk {tb : Tables} {P : State → Outcome → Prop} {A t : State} {o : Outcome} (h : Steps tb e below A t) (k : P t o) : Gd tb e below P A := ⟨t, o, h, k⟩
end New
end Jvm.RoadKit
namespace Jvm.Pilot.@@N@@
open Jvm Jvm.ClassFile Sem Op Lib Jvm.Free Jvm.Stand Jvm.LawKit Jvm.RoadKit Bundle Jvm.Pilot.@@N@@.Jvm.D
def own_d (p : Int32) : Int32 := (p &&& (2147483647 : Int32)) - ((p &&& (2147483647 : Int32)) / (17 : Int32)) * (17 : Int32)
def own_s (d : Int32) : Int32 := (64 : Int32) - ((4 : Int32) * d)
def own_pre (d : Int32) (q : Int64) : Int64 := if d = (16 : Int32) then q else q &&& (((1 : Int64) <<< (((4 : Int32) * d) &&& 0x3f).toInt64) - (1 : Int64))
def own_fst (d : Int32) (q : Int64) : Int64 := if d = (0 : Int32) then (0 : Int64) else q <<< ((own_s d) &&& 0x3f).toInt64
def own_cov (d : Int32) (q x : Int64) : Int32 := if d = (0 : Int32) ∨ ((x.toUInt64 >>> ((own_s d) &&& 0x3f).toInt64.toUInt64).toInt64) = q then 1 else 0
abbrev own_u (x : Int64) : Nat := x.toBitVec.toNat
theorem own_inj (x y : Int64) : x = y ↔ own_u x = own_u y := ⟨fun h => by rw [h], fun h => Int64.toBitVec_inj.mp (BitVec.eq_of_toNat_eq h)⟩
theorem own_drng (p : Int32) : 0 ≤ (own_d p).toInt ∧ (own_d p).toInt ≤ 16 := by
  have h : (own_d p).toInt = (p &&& 2147483647).toInt % 17 := by
    unfold own_d
    rw [irem_eq_mod]
    exact (c_irem _ 17 17 (by decide)).1 (c_and p 2147483647 (by decide)).1
  omega
theorem own_nat (x : Int32) (h : 0 ≤ x.toInt) : x.toBitVec.toNat = x.toInt.toNat := by
  have h1 := x.toBitVec.isLt
  have h2 : 0 ≤ x.toBitVec.toInt := h
  show _ = x.toBitVec.toInt.toNat
  rw [BitVec.toInt_eq_toNat_cond] at h2 ⊢
  split at h2 <;> omega
theorem own_4d (d : Int32) (h : 0 ≤ d.toInt ∧ d.toInt ≤ 16) : ((4 : Int32) * d).toInt = 4 * d.toInt := by
  have h1 := c_imul (4 : Int32) d
  have h2 := rng32 ((4 : Int32) * d)
  rw [show (4 : Int32).toInt = 4 from rfl] at h1
  omega
theorem own_sv (d : Int32) (h : 0 ≤ d.toInt ∧ d.toInt ≤ 16) : (own_s d).toInt = 64 - 4 * d.toInt := by
  have h0 := own_4d d h
  have h1 := c_isub (64 : Int32) ((4 : Int32) * d)
  have h2 := rng32 ((64 : Int32) - (4 : Int32) * d)
  rw [show (64 : Int32).toInt = 64 from rfl] at h1
  unfold own_s
  omega
theorem own_shl (x : Int64) (q : Int32) (k : Nat) (hk : q.toBitVec.toNat % 64 = k) : own_u (x <<< (q &&& 0x3f).toInt64) = own_u x * 2 ^ k % 2 ^ 64 := by
  show (x.toBitVec <<< ((q &&& 0x3f).toInt64.toBitVec.smod 64)).toNat = _
  rw [BitVec.shiftLeft_eq', (sm64 q k hk).1, smod64 k (sm64 q k hk).2, BitVec.toNat_shiftLeft, Nat.shiftLeft_eq]
theorem own_shr (x : Int64) (q : Int32) (k : Nat) (hk : q.toBitVec.toNat % 64 = k) : own_u ((x.toUInt64 >>> (q &&& 0x3f).toInt64.toUInt64).toInt64) = own_u x / 2 ^ k := by
  show (x.toBitVec >>> ((q &&& 0x3f).toInt64.toBitVec % 64)).toNat = _
  have h5 := (sm64 q k hk).2
  rw [BitVec.ushiftRight_eq', BitVec.toNat_ushiftRight, Nat.shiftRight_eq_div_pow, BitVec.toNat_umod, (sm64 q k hk).1, BitVec.toNat_ofNat]
  congr 2
  show k % 2 ^ 64 % 64 = k
  omega
theorem own_sub1 (x : Int64) (h : 0 < own_u x) : own_u (x - 1) = own_u x - 1 := by
  have h1 := x.toBitVec.isLt
  show (x.toBitVec - 1#64).toNat = _
  rw [BitVec.toNat_sub]
  show (2 ^ 64 - 1 + x.toBitVec.toNat) % 2 ^ 64 = x.toBitVec.toNat - 1
  have : 0 < x.toBitVec.toNat := h
  omega
theorem own_bit (q : Int32) (k : Nat) (hk : q.toBitVec.toNat % 64 = k) : own_u (((1 : Int64) <<< (q &&& 0x3f).toInt64) - 1) = 2 ^ k - 1 := by
  have h5 := (sm64 q k hk).2
  have h1 : own_u ((1 : Int64) <<< (q &&& 0x3f).toInt64) = 2 ^ k := by
    rw [own_shl _ q k hk, show own_u 1 = 1 from rfl, Nat.one_mul]
    exact Nat.mod_eq_of_lt (Nat.pow_lt_pow_right (by decide) h5)
  rw [own_sub1 _ (by rw [h1]; exact Nat.two_pow_pos k), h1]
theorem own_prelt (d : Int32) (q : Int64) (h : 0 ≤ d.toInt ∧ d.toInt ≤ 16) : own_u (own_pre d q) < 2 ^ (4 * d.toInt).toNat := by
  unfold own_pre
  by_cases h16 : d = 16
  · rw [if_pos h16, h16]
    exact q.toBitVec.isLt
  · rw [if_neg h16]
    have h4 := own_4d d h
    have hd : d.toInt ≠ 16 := fun e => h16 (Int32.toInt_inj.mp e)
    have hk : ((4 : Int32) * d).toBitVec.toNat % 64 = (4 * d.toInt).toNat := by rw [own_nat _ (by omega), h4]; omega
    show (q.toBitVec &&& (((1 : Int64) <<< (((4 : Int32) * d) &&& 0x3f).toInt64) - 1).toBitVec).toNat < _
    rw [BitVec.toNat_and]
    have := own_bit ((4 : Int32) * d) _ hk
    have h2 : (((1 : Int64) <<< (((4 : Int32) * d) &&& 0x3f).toInt64) - 1).toBitVec.toNat = 2 ^ (4 * d.toInt).toNat - 1 := this
    rw [h2, Nat.and_two_pow_sub_one_eq_mod]
    exact Nat.mod_lt _ (Nat.two_pow_pos _)
theorem own_sn (d : Int32) (h : 0 ≤ d.toInt ∧ d.toInt ≤ 16) (h0 : ¬ d = 0) : ∃ k : Nat, (own_s d).toBitVec.toNat % 64 = k ∧ (own_s d).toInt = k ∧ (4 * d.toInt).toNat + k = 64 ∧ k < 64 := by
  have hs := own_sv d h
  have hd : d.toInt ≠ 0 := fun e => h0 (Int32.toInt_inj.mp e)
  refine ⟨(64 - 4 * d.toInt).toNat, ?_, by omega, by omega, by omega⟩
  rw [own_nat _ (by omega), hs]
  omega
theorem own_fstu (d : Int32) (q : Int64) (h : 0 ≤ d.toInt ∧ d.toInt ≤ 16) (h0 : ¬ d = 0) (k : Nat) (hk : (own_s d).toBitVec.toNat % 64 = k) (h64 : (4 * d.toInt).toNat + k = 64) : own_u (own_fst d (own_pre d q)) = own_u (own_pre d q) * 2 ^ k ∧ own_u (own_pre d q) * 2 ^ k < 2 ^ 64 := by
  have hl := own_prelt d q h
  have : own_u (own_pre d q) * 2 ^ k < 2 ^ 64 := by
    calc own_u (own_pre d q) * 2 ^ k < 2 ^ (4 * d.toInt).toNat * 2 ^ k := Nat.mul_lt_mul_of_pos_right hl (Nat.two_pow_pos k)
      _ = 2 ^ 64 := by rw [← Nat.pow_add, h64]
  refine ⟨?_, this⟩
  unfold own_fst
  rw [if_neg h0, own_shl _ _ k hk, Nat.mod_eq_of_lt this]
theorem own_covu (d : Int32) (q x : Int64) (h0 : ¬ d = 0) (k : Nat) (hk : (own_s d).toBitVec.toNat % 64 = k) : own_cov d q x = if own_u x / 2 ^ k = own_u q then 1 else 0 := by
  unfold own_cov
  have e : ((x.toUInt64 >>> ((own_s d) &&& 0x3f).toInt64.toUInt64).toInt64) = q ↔ own_u x / 2 ^ k = own_u q := by rw [own_inj, own_shr _ _ k hk]
  by_cases h : own_u x / 2 ^ k = own_u q
  · rw [if_pos h, if_pos (Or.inr (e.mpr h))]
  · rw [if_neg h, if_neg (fun z => z.elim h0 (fun y => h (e.mp y)))]
def own_low (d : Int32) : Int64 := if d = (0 : Int32) then (-1 : Int64) else if d = (16 : Int32) then (0 : Int64) else ((1 : Int64) <<< ((own_s d) &&& 0x3f).toInt64) - (1 : Int64)
def own_sel (p : Int32) : Int32 := (p &&& (2147483647 : Int32)) - ((p &&& (2147483647 : Int32)) / (6 : Int32)) * (6 : Int32)
def own_pos (s : Int32) (x f w t : Int64) : Int64 := if s = (0 : Int32) then x else if s = (1 : Int32) then f ||| (x &&& w) else if s = (2 : Int32) then f else if s = (3 : Int32) then t else if s = (4 : Int32) then f - (1 : Int64) else t + (1 : Int64)
def own_ule (a b : Int64) : Int32 := if (b + (-9223372036854775808 : Int64)) < (a + (-9223372036854775808 : Int64)) then 0 else 1
theorem own_min (a : Int64) : (a + (-9223372036854775808 : Int64)).toInt = (own_u a : Int) - 9223372036854775808 := by
  have h1 := c_ladd a (-9223372036854775808 : Int64)
  have h2 := rng64 (a + (-9223372036854775808 : Int64))
  have h3 : a.toInt = a.toBitVec.toInt := rfl
  have h4 := a.toBitVec.isLt
  rw [show (-9223372036854775808 : Int64).toInt = -9223372036854775808 from rfl] at h1
  rw [BitVec.toInt_eq_toNat_cond] at h3
  have h5 : own_u a = a.toBitVec.toNat := rfl
  split at h3 <;> omega
theorem own_ule0 (a b : Int64) : own_ule a b = (0 : Int32) ↔ own_u b < own_u a := by
  unfold own_ule
  have e : ((b + (-9223372036854775808 : Int64)) < (a + (-9223372036854775808 : Int64))) ↔ own_u b < own_u a := by rw [Int64.lt_iff_toInt_lt, own_min, own_min]; omega
  by_cases h : own_u b < own_u a
  · rw [if_pos (e.mpr h)]; exact ⟨fun _ => h, fun _ => rfl⟩
  · rw [if_neg (fun z => h (e.mp z))]; exact ⟨fun z => absurd z (by decide), fun z => absurd z h⟩
theorem own_lowu (d : Int32) (h : 0 ≤ d.toInt ∧ d.toInt ≤ 16) (h0 : ¬ d = 0) (k : Nat) (hk : (own_s d).toBitVec.toNat % 64 = k) (h64 : (4 * d.toInt).toNat + k = 64) : own_u (own_low d) = 2 ^ k - 1 := by
  unfold own_low
  rw [if_neg h0]
  by_cases h16 : d = 16
  · rw [if_pos h16]
    have : k = 0 := by rw [h16, show (16 : Int32).toInt = 16 from rfl] at h64; omega
    subst this; rfl
  · rw [if_neg h16]; exact own_bit _ k hk
theorem own_lst (d : Int32) (q : Int64) (h : 0 ≤ d.toInt ∧ d.toInt ≤ 16) (h0 : ¬ d = 0) (k : Nat) (hk : (own_s d).toBitVec.toNat % 64 = k) (h64 : (4 * d.toInt).toNat + k = 64) : own_u (own_fst d (own_pre d q) ||| own_low d) = own_u (own_pre d q) * 2 ^ k + (2 ^ k - 1) := by
  show ((own_fst d (own_pre d q)).toBitVec ||| (own_low d).toBitVec).toNat = _
  rw [BitVec.toNat_or]
  have h1 : (own_fst d (own_pre d q)).toBitVec.toNat = _ := (own_fstu d q h h0 k hk h64).1
  have h2 : (own_low d).toBitVec.toNat = 2 ^ k - 1 := own_lowu d h h0 k hk h64
  have hp := Nat.two_pow_pos k
  rw [h1, h2, ← Nat.shiftLeft_eq, Nat.shiftLeft_add_eq_or_of_lt (by omega)]
theorem own_iff (p : Int32) (q x : Int64) : own_cov (own_d p) (own_pre (own_d p) q) x = if ¬ own_ule (own_fst (own_d p) (own_pre (own_d p) q)) x = (0 : Int32) ∧ ¬ own_ule x (own_fst (own_d p) (own_pre (own_d p) q) ||| own_low (own_d p)) = (0 : Int32) then 1 else 0 := by
  simp only [own_ule0]
  by_cases h0 : own_d p = 0
  · have hx := x.toBitVec.isLt
    have h5 : own_u x = x.toBitVec.toNat := rfl
    unfold own_cov own_fst own_low
    rw [if_pos (Or.inl h0), if_pos h0, if_pos h0, if_pos]
    rw [show own_u 0 = 0 from rfl, show own_u ((0 : Int64) ||| -1) = 18446744073709551615 from rfl]
    omega
  · obtain ⟨k, hk, -, h64, -⟩ := own_sn _ (own_drng p) h0
    rw [own_covu _ _ _ h0 k hk, own_lst _ q (own_drng p) h0 k hk h64, (own_fstu _ q (own_drng p) h0 k hk h64).1]
    have hp := Nat.two_pow_pos k
    generalize own_u (own_pre (own_d p) q) = P
    generalize own_u x = X
    generalize 2 ^ k = M at *
    have e : X / M = P ↔ ¬ X < P * M ∧ ¬ P * M + (M - 1) < X := by
      rw [Nat.div_eq_iff hp]
      omega
    by_cases hc : X / M = P
    · rw [if_pos hc, if_pos (e.mp hc)]
    · rw [if_neg hc, if_neg (fun z => hc (e.mpr z))]
theorem d1_0 : decode method_2_code 0 = .ok (.lload_n 0, 1) := by decide +kernel
theorem d1_1 : decode method_2_code 1 = .ok (.ldc2_w 9, 3) := by decide +kernel
theorem d1_4 : decode method_2_code 4 = .ok (.ladd, 1) := by decide +kernel
theorem d1_5 : decode method_2_code 5 = .ok (.lload_n 2, 1) := by decide +kernel
theorem d1_6 : decode method_2_code 6 = .ok (.ldc2_w 9, 3) := by decide +kernel
theorem d1_9 : decode method_2_code 9 = .ok (.ladd, 1) := by decide +kernel
theorem d1_10 : decode method_2_code 10 = .ok (.lcmp, 1) := by decide +kernel
theorem d1_11 : decode method_2_code 11 = .ok (.ifCond .gt 7, 3) := by decide +kernel
theorem d1_14 : decode method_2_code 14 = .ok (.iconst 1, 1) := by decide +kernel
theorem d1_15 : decode method_2_code 15 = .ok (.goto 4, 3) := by decide +kernel
theorem d1_18 : decode method_2_code 18 = .ok (.iconst 0, 1) := by decide +kernel
theorem d1_19 : decode method_2_code 19 = .ok (.ireturn, 1) := by decide +kernel
theorem pn_HashTreesCoversPinLaw : plainName "com/example/tattle/tattle/antientropy/HashTreesCoversPinLaw" = true := by first | (simp [plainName, overriddenIn]; done) | decide +kernel
theorem ef_1 (m : MethodId) (x0 : Int64) (x1 : Int64) : entryFrame m #[(.long x0), (.long x1)] 4 = mkF m 0 #[.val (.long x0), .second, .val (.long x1), .second] [] := by first | (simp [entryFrame, mkF, argsToLocals, Value.category]; done) | rfl
def Q1 (Z : State) (q1 : Int64) (q2 : Int64) (h0 : Heap) (n0 : Nat) (v : Option Value) (h : Heap) (L : List Loc) : Prop := v = some (.int (own_ule q1 q2)) ∧ Fr n0 L ∧ h = h0
set_option maxRecDepth 65536 in
set_option maxHeartbeats 40000000 in
theorem rm1 (l : Launch) (Z : State) (a0 : Array Value) (hw : ∀ d ∈ tables_1, d.before a0 Z = true) (ws : List Jvm.Cond) (q1 : Int64) (q2 : Int64) (h0 : Heap) (n0 : Nat) (Z0 : n0 ≤ h0.size) :
    MetFree l (⟨"com/example/tattle/tattle/antientropy/HashTreesCoversPinLaw", "unsignedLessOrEqual", "(JJ)Z"⟩ : MethodName) (head1 (Jvm.Cond.code (⟨"com/example/tattle/tattle/antientropy/HashTreesCoversPinLaw", "unsignedLessOrEqual", "(JJ)Z"⟩ : MethodName) method_2_code 4 (some .boolean) :: ws) ({ frames := 0, cells := 0, slots := 0, locals := 0 } : Room)) (fun a U => a = #[(.long q1), (.long q2)] ∧ Z.Warmed39 U.vm ∧ U.heap = h0) (fun _ _ _ _ _ => True) (fun _ U o U' => ∃ v L, o = .returned v ∧ Q1 Z q1 q2 h0 n0 v U'.heap L ∧ FrameEnd U o U' L ({ frames := 0, cells := 0, slots := 0, locals := 0 } : Room).cells ({ frames := 0, cells := 0, slots := 0, locals := 0 } : Room).slots) := by
  refine MetFree.of_bodySF (plainFor_of_name pn_HashTreesCoversPinLaw) hisR ?_
  intro p e s m args below meth c s₁ Bd hml0 hP hK
  obtain ⟨rfl, hZ, hh⟩ := hP
  have hx := Bd.exec
  have hby := Bd.bytes
  have hml : c.maxLocals = 4 := hml0
  have hown : s.vm.findClass "com/example/tattle/tattle/antientropy/HashTreesCoversPinLaw" = some m.cls := findClass_of_methodNamed Bd.named
  have hnm := (name_of_methodNamed Bd.named Bd.method).1
  have X0 : Stand p l e ({ frames := 0, cells := 0, slots := 0, locals := 0 } : Room) s m #[(.long q1), (.long q2)] below meth c s₁ [] 0 0 := Stand.of_body Bd
  have e0 : s₁.heap = h0 := by rw [← hh, Bd.state]; rfl
  have N0 := Fr.nil n0
  refine Gd.out (Gd.st (fun t k => castTop (ef_1 m q1 q2) k) ?_)
  show Gd p.tables e below _ (s₁.setTop (mkF m 0 #[.val (.long q1), .second, .val (.long q2), .second] []))
  refine Gd.st (fun _ k => XS.lloadN X0.here hx rfl (hb hby d1_0) rfl k) ?_
  show Gd p.tables e below _ (s₁.setTop (mkF m 1 #[.val (.long q1), .second, .val (.long q2), .second] [(.long q1)]))
  refine Gd.st (fun _ k => X0.ldc2Long hx hown (mvT hZ (hw _ (List.mem_of_getElem? (i := 5) rfl))) (g := (mkF m 1 #[.val (.long q1), .second, .val (.long q2), .second] [(.long q1)])) rfl (hb hby d1_1) _ k) ?_
  show Gd p.tables e below _ (s₁.setTop (mkF m 4 #[.val (.long q1), .second, .val (.long q2), .second] [(.long (-9223372036854775808 : Int64)), (.long q1)]))
  refine Gd.st (fun _ k => XS.ladd X0.here hx rfl (hb hby d1_4) rfl k) ?_
  show Gd p.tables e below _ (s₁.setTop (mkF m 5 #[.val (.long q1), .second, .val (.long q2), .second] [(.long (q1 + (-9223372036854775808 : Int64)))]))
  refine Gd.st (fun _ k => XS.lloadN X0.here hx rfl (hb hby d1_5) rfl k) ?_
  show Gd p.tables e below _ (s₁.setTop (mkF m 6 #[.val (.long q1), .second, .val (.long q2), .second] [(.long q2), (.long (q1 + (-9223372036854775808 : Int64)))]))
  refine Gd.st (fun _ k => X0.ldc2Long hx hown (mvT hZ (hw _ (List.mem_of_getElem? (i := 5) rfl))) (g := (mkF m 6 #[.val (.long q1), .second, .val (.long q2), .second] [(.long q2), (.long (q1 + (-9223372036854775808 : Int64)))])) rfl (hb hby d1_6) _ k) ?_
  show Gd p.tables e below _ (s₁.setTop (mkF m 9 #[.val (.long q1), .second, .val (.long q2), .second] [(.long (-9223372036854775808 : Int64)), (.long q2), (.long (q1 + (-9223372036854775808 : Int64)))]))
  refine Gd.st (fun _ k => XS.ladd X0.here hx rfl (hb hby d1_9) rfl k) ?_
  show Gd p.tables e below _ (s₁.setTop (mkF m 10 #[.val (.long q1), .second, .val (.long q2), .second] [(.long (q2 + (-9223372036854775808 : Int64))), (.long (q1 + (-9223372036854775808 : Int64)))]))
  refine Gd.st (fun _ k => XS.lcmp X0.here hx rfl (hb hby d1_10) rfl k) ?_
  show Gd p.tables e below _ (s₁.setTop (mkF m 11 #[.val (.long q1), .second, .val (.long q2), .second] [(.int (lcmpW (q1 + (-9223372036854775808 : Int64)) (q2 + (-9223372036854775808 : Int64))))]))
  by_cases hc11 : (q2 + (-9223372036854775808 : Int64)) < (q1 + (-9223372036854775808 : Int64))
  · skip
    refine Gd.st (fun _ k => XS.ifYes X0.here hx rfl (pc0 := 11) (pc' := 18) rfl (hb hby d1_11) rfl ((if0 _ _).trans (tlt ((lw_gt (q1 + (-9223372036854775808 : Int64)) (q2 + (-9223372036854775808 : Int64))).mpr hc11)).2.2.1) (by decide) (by decide) k) ?_
    show Gd p.tables e below _ (s₁.setTop (mkF m 18 #[.val (.long q1), .second, .val (.long q2), .second] []))
    refine Gd.st (fun _ k => XS.iconst X0.here hx rfl (hb hby d1_18) k) ?_
    show Gd p.tables e below _ (s₁.setTop (mkF m 19 #[.val (.long q1), .second, .val (.long q2), .second] [(.int (0 : Int32))]))
    obtain ⟨fs, hr, hrun, hended, hW, hsame⟩ := X0.leave (v := some (.int (0 : Int32))) (fun h => by rw [Bd.returns] at h; cases h) Bd.notSynchronized
    refine Gd.mk (o := .returned (some (.int (0 : Int32)))) (retN X0 hx (t := .boolean) Bd.returns (by simp) (hb hby d1_19) hr) ⟨hrun, hended, _, _, rfl, ?_, ⟨_, rfl⟩, hW, hsame.mono (by decide) (by decide)⟩
    show Q1 Z q1 q2 h0 n0 _ s₁.heap _
    rw [e0]
    exact ⟨(by first | (simp only [own_ule, eq_true hc11, not_true_eq_false, not_false_eq_true, and_true, true_and, and_false, false_and, or_true, true_or, or_false, false_or, if_true, if_false]; done) | simp [own_ule, eq_true hc11]), N0, rfl⟩
  · skip
    refine Gd.st (fun _ k => XS.ifNo X0.here hx rfl (hb hby d1_11) rfl ((if0 _ _).trans (flt (fun q => hc11 ((lw_gt (q1 + (-9223372036854775808 : Int64)) (q2 + (-9223372036854775808 : Int64))).mp q))).2.2.1) k) ?_
    show Gd p.tables e below _ (s₁.setTop (mkF m 14 #[.val (.long q1), .second, .val (.long q2), .second] []))
    refine Gd.st (fun _ k => XS.iconst X0.here hx rfl (hb hby d1_14) k) ?_
    show Gd p.tables e below _ (s₁.setTop (mkF m 15 #[.val (.long q1), .second, .val (.long q2), .second] [(.int (1 : Int32))]))
    refine Gd.st (fun _ k => XS.goto X0.here hx rfl (pc0 := 15) (pc' := 19) rfl (hb hby d1_15) (by decide) (by decide) k) ?_
    show Gd p.tables e below _ (s₁.setTop (mkF m 19 #[.val (.long q1), .second, .val (.long q2), .second] [(.int (1 : Int32))]))
    obtain ⟨fs, hr, hrun, hended, hW, hsame⟩ := X0.leave (v := some (.int (1 : Int32))) (fun h => by rw [Bd.returns] at h; cases h) Bd.notSynchronized
    refine Gd.mk (o := .returned (some (.int (1 : Int32)))) (retN X0 hx (t := .boolean) Bd.returns (by simp) (hb hby d1_19) hr) ⟨hrun, hended, _, _, rfl, ?_, ⟨_, rfl⟩, hW, hsame.mono (by decide) (by decide)⟩
    show Q1 Z q1 q2 h0 n0 _ s₁.heap _
    rw [e0]
    exact ⟨(by first | (simp only [own_ule, eq_false hc11, not_true_eq_false, not_false_eq_true, and_true, true_and, and_false, false_and, or_true, true_or, or_false, false_or, if_true, if_false]; done) | simp [own_ule, eq_false hc11]), N0, rfl⟩
theorem d3_0 : decode jdk_30_method_1_code 0 = .ok (.aload_n 0, 1) := by decide +kernel
theorem d3_1 : decode jdk_30_method_1_code 1 = .ok (.invokespecial 1, 3) := by decide +kernel
theorem d3_4 : decode jdk_30_method_1_code 4 = .ok (.return_, 1) := by decide +kernel
theorem pn_Record : plainName "java/lang/Record" = true := by first | (simp [plainName, overriddenIn]; done) | decide +kernel
theorem ef_3 (m : MethodId) (x0 : Addr) : entryFrame m #[(.ref x0)] 1 = mkF m 0 #[.val (.ref x0)] [] := by first | (simp [entryFrame, mkF, argsToLocals, Value.category]; done) | rfl
def Q3 (Z : State) (a1 : Addr) (h0 : Heap) (n0 : Nat) (v : Option Value) (h : Heap) (L : List Loc) : Prop := v = none ∧ Fr n0 L ∧ h = h0
set_option maxRecDepth 65536 in
set_option maxHeartbeats 40000000 in
theorem rm3 (l : Launch) (Z : State) (a0 : Array Value) (hw : ∀ d ∈ tables_1, d.before a0 Z = true) (ws : List Jvm.Cond) (a1 : Addr) (h0 : Heap) (n0 : Nat) (Z0 : n0 ≤ h0.size) :
    MetFree l (⟨"java/lang/Record", "<init>", "()V"⟩ : MethodName) (head1 (Jvm.Cond.code (⟨"java/lang/Record", "<init>", "()V"⟩ : MethodName) jdk_30_method_1_code 1 none :: ws) ({ frames := 1, cells := 0, slots := 0, locals := 12 } : Room)) (fun a U => a = #[(.ref a1)] ∧ Z.Warmed39 U.vm ∧ U.heap = h0) (fun _ _ _ _ _ => True) (fun _ U o U' => ∃ v L, o = .returned v ∧ Q3 Z a1 h0 n0 v U'.heap L ∧ FrameEnd U o U' L ({ frames := 1, cells := 0, slots := 0, locals := 12 } : Room).cells ({ frames := 1, cells := 0, slots := 0, locals := 12 } : Room).slots) := by
  refine MetFree.of_bodySF (plainFor_of_name pn_Record) hisR ?_
  intro p e s m args below meth c s₁ Bd hml0 hP hK
  obtain ⟨rfl, hZ, hh⟩ := hP
  have hx := Bd.exec
  have hby := Bd.bytes
  have hml : c.maxLocals = 1 := hml0
  have hown : s.vm.findClass "java/lang/Record" = some m.cls := findClass_of_methodNamed Bd.named
  have hnm := (name_of_methodNamed Bd.named Bd.method).1
  have X0 : Stand p l e ({ frames := 1, cells := 0, slots := 0, locals := 12 } : Room) s m #[(.ref a1)] below meth c s₁ [] 0 0 := Stand.of_body Bd
  have e0 : s₁.heap = h0 := by rw [← hh, Bd.state]; rfl
  have N0 := Fr.nil n0
  refine Gd.out (Gd.st (fun t k => castTop (ef_3 m a1) k) ?_)
  show Gd p.tables e below _ (s₁.setTop (mkF m 0 #[.val (.ref a1)] []))
  refine Gd.st (fun _ k => XS.aloadN X0.here hx rfl (hb hby d3_0) rfl rfl k) ?_
  show Gd p.tables e below _ (s₁.setTop (mkF m 1 #[.val (.ref a1)] [(.ref a1)]))
  obtain ⟨T1, X1, e1, st1⟩ := initO X0 hx hZ hown (hw _ (List.mem_of_getElem? (i := 17) rfl)) (hw _ (List.mem_of_getElem? (i := 18) rfl)) (hw _ (List.mem_of_getElem? (i := 19) rfl)) e0 (g := (mkF m 1 #[.val (.ref a1)] [(.ref a1)])) rfl (by rw [hml]; rfl) rfl (hb hby d3_1) (by decide) (W := 0) (by show 2 * 0 + _ ≤ _; exact Nat.le_of_eq rfl) (by decide)
  refine Gd.st st1 ?_
  show Gd p.tables e below _ (T1.setTop (mkF m 4 #[.val (.ref a1)] []))
  obtain ⟨fs, hr, hrun, hended, hW, hsame⟩ := X1.leave (v := none) (fun _ => rfl) Bd.notSynchronized
  refine Gd.mk (o := .returned (none)) (X1.returnOut hx Bd.returns (hb hby d3_4) hr) ⟨hrun, hended, _, _, rfl, ?_, ⟨_, rfl⟩, hW, hsame.mono (by decide) (by decide)⟩
  show Q3 Z a1 h0 n0 _ T1.heap _
  rw [e1]
  exact ⟨rfl, N0, rfl⟩
theorem d2_0 : decode prog_9_method_1_code 0 = .ok (.aload_n 0, 1) := by decide +kernel
theorem d2_1 : decode prog_9_method_1_code 1 = .ok (.invokespecial 3, 3) := by decide +kernel
theorem d2_4 : decode prog_9_method_1_code 4 = .ok (.aload_n 0, 1) := by decide +kernel
theorem d2_5 : decode prog_9_method_1_code 5 = .ok (.iload_n 1, 1) := by decide +kernel
theorem d2_6 : decode prog_9_method_1_code 6 = .ok (.putfield 9, 3) := by decide +kernel
theorem d2_9 : decode prog_9_method_1_code 9 = .ok (.aload_n 0, 1) := by decide +kernel
theorem d2_10 : decode prog_9_method_1_code 10 = .ok (.iload_n 2, 1) := by decide +kernel
theorem d2_11 : decode prog_9_method_1_code 11 = .ok (.putfield 15, 3) := by decide +kernel
theorem d2_14 : decode prog_9_method_1_code 14 = .ok (.aload_n 0, 1) := by decide +kernel
theorem d2_15 : decode prog_9_method_1_code 15 = .ok (.lload_n 3, 1) := by decide +kernel
theorem d2_16 : decode prog_9_method_1_code 16 = .ok (.putfield 18, 3) := by decide +kernel
theorem d2_19 : decode prog_9_method_1_code 19 = .ok (.return_, 1) := by decide +kernel
theorem pn_HashTrees_Node : plainName "com/example/tattle/tattle/antientropy/HashTrees$Node" = true := by first | (simp [plainName, overriddenIn]; done) | decide +kernel
theorem ef_2 (m : MethodId) (x0 : Addr) (x1 : Int32) (x2 : Int32) (x3 : Int64) : entryFrame m #[(.ref x0), (.int x1), (.int x2), (.long x3)] 5 = mkF m 0 #[.val (.ref x0), .val (.int x1), .val (.int x2), .val (.long x3), .second] [] := by first | (simp [entryFrame, mkF, argsToLocals, Value.category]; done) | rfl
theorem pd___V_3 : parseMethodDescriptor "()V" = some ⟨[], none⟩ := by decide +kernel
def Q2 (Z : State) (a1 : Addr) (p2 : Int32) (p3 : Int32) (q4 : Int64) (h0 : Heap) (n0 : Nat) (v : Option Value) (h : Heap) (L : List Loc) : Prop := v = none ∧ Fr n0 L ∧ Keep h0 h [a1] ∧ Exa Z h a1 "com/example/tattle/tattle/antientropy/HashTrees$Node" ∧ Fld Z h a1 "com/example/tattle/tattle/antientropy/HashTrees$Node" "partition" "I" (.int p2) ∧ Fld Z h a1 "com/example/tattle/tattle/antientropy/HashTrees$Node" "depth" "I" (.int p3) ∧ Fld Z h a1 "com/example/tattle/tattle/antientropy/HashTrees$Node" "prefix" "J" (.long q4)
set_option maxRecDepth 65536 in
set_option maxHeartbeats 40000000 in
theorem rm2 (l : Launch) (Z : State) (a0 : Array Value) (hw : ∀ d ∈ tables_1, d.before a0 Z = true) (ws : List Jvm.Cond) (a1 : Addr) (p2 : Int32) (p3 : Int32) (q4 : Int64) (h0 : Heap) (n0 : Nat) (Z0 : n0 ≤ h0.size) (E0 : Exa Z h0 a1 "com/example/tattle/tattle/antientropy/HashTrees$Node") (F0_0 : Fld Z h0 a1 "com/example/tattle/tattle/antientropy/HashTrees$Node" "partition" "I" (.int (0 : Int32))) (F0_1 : Fld Z h0 a1 "com/example/tattle/tattle/antientropy/HashTrees$Node" "depth" "I" (.int (0 : Int32))) (F0_2 : Fld Z h0 a1 "com/example/tattle/tattle/antientropy/HashTrees$Node" "prefix" "J" (.long (0 : Int64))) (g_a1 : n0 ≤ a1) :
    MetFree l (⟨"com/example/tattle/tattle/antientropy/HashTrees$Node", "<init>", "(IIJ)V"⟩ : MethodName) (head1 (Jvm.Cond.code (⟨"com/example/tattle/tattle/antientropy/HashTrees$Node", "<init>", "(IIJ)V"⟩ : MethodName) prog_9_method_1_code 5 none :: ws) ({ frames := 2, cells := 0, slots := 0, locals := 24 } : Room)) (fun a U => a = #[(.ref a1), (.int p2), (.int p3), (.long q4)] ∧ Z.Warmed39 U.vm ∧ U.heap = h0) (fun _ _ _ _ _ => True) (fun _ U o U' => ∃ v L, o = .returned v ∧ Q2 Z a1 p2 p3 q4 h0 n0 v U'.heap L ∧ FrameEnd U o U' L ({ frames := 2, cells := 0, slots := 0, locals := 24 } : Room).cells ({ frames := 2, cells := 0, slots := 0, locals := 24 } : Room).slots) := by
  refine MetFree.of_bodySF (plainFor_of_name pn_HashTrees_Node) hisR ?_
  intro p e s m args below meth c s₁ Bd hml0 hP hK
  obtain ⟨rfl, hZ, hh⟩ := hP
  have hx := Bd.exec
  have hby := Bd.bytes
  have hml : c.maxLocals = 5 := hml0
  have hown : s.vm.findClass "com/example/tattle/tattle/antientropy/HashTrees$Node" = some m.cls := findClass_of_methodNamed Bd.named
  have hnm := (name_of_methodNamed Bd.named Bd.method).1
  have X0 : Stand p l e ({ frames := 2, cells := 0, slots := 0, locals := 24 } : Room) s m #[(.ref a1), (.int p2), (.int p3), (.long q4)] below meth c s₁ [] 0 0 := Stand.of_body Bd
  have e0 : s₁.heap = h0 := by rw [← hh, Bd.state]; rfl
  have N0 := Fr.nil n0
  refine Gd.out (Gd.st (fun t k => castTop (ef_2 m a1 p2 p3 q4) k) ?_)
  show Gd p.tables e below _ (s₁.setTop (mkF m 0 #[.val (.ref a1), .val (.int p2), .val (.int p3), .val (.long q4), .second] []))
  refine Gd.st (fun _ k => XS.aloadN X0.here hx rfl (hb hby d2_0) rfl rfl k) ?_
  show Gd p.tables e below _ (s₁.setTop (mkF m 1 #[.val (.ref a1), .val (.int p2), .val (.int p3), .val (.long q4), .second] [(.ref a1)]))
  obtain ⟨_, _, ⟨T1, L1, k1, n1⟩, -, X1, ⟨Lc1, hQ1, l1, y1, z1⟩, st1⟩ := X0.specialBack hx (y := (⟨"java/lang/Record", "<init>", "()V"⟩ : MethodName)) rfl hown (mvT hZ (hw _ (List.mem_of_getElem? (i := 12) rfl))) (mvT hZ (hw _ (List.mem_of_getElem? (i := 13) rfl))) (mvT hZ (hw _ (List.mem_of_getElem? (i := 16) rfl))) (by decide) (backOf (W := 0) (rm3 l Z a0 hw [] a1 h0 n0 Z0 ) hZ (hw _ (List.mem_of_getElem? (i := 16) rfl)) (hw _ (List.mem_of_getElem? (i := 15) rfl)) (by decide) (by decide)) (g := (mkF m 1 #[.val (.ref a1), .val (.int p2), .val (.int p3), .val (.long q4), .second] [(.ref a1)])) rfl (by rw [hml]; rfl) (Steps.refl _) (a := a1) (argsL := []) (rest := []) (lenOf pd___V_3 rfl) rfl (by show 2 * 0 + _ ≤ _; exact Nat.le_of_eq rfl) (hb hby d2_1) (fun _ _ => ⟨rfl, e0, (by decide : 0 + 0 ≤ _), (by decide : 0 + 0 ≤ _)⟩)
  dsimp only [Pt.U, Pt.locs, Pt.cells, Pt.slots] at X1 l1 y1 z1 st1 hQ1
  simp only [Nat.add_zero, Nat.zero_add, Nat.reduceAdd] at y1 z1
  subst y1 z1
  obtain ⟨rfl, N1q, eh1⟩ := hQ1
  have N1 : Fr n0 L1 := by rw [l1]; exact Fr.app N0 N1q
  clear l1
  refine Gd.st (fun _ k => st1.trans k) ?_
  have e1 : T1.heap = h0 := eh1
  show Gd p.tables e below _ (T1.setTop (mkF m 4 #[.val (.ref a1), .val (.int p2), .val (.int p3), .val (.long q4), .second] []))
  refine Gd.st (fun _ k => XS.aloadN X1.here hx rfl (hb hby d2_4) rfl rfl k) ?_
  show Gd p.tables e below _ (T1.setTop (mkF m 5 #[.val (.ref a1), .val (.int p2), .val (.int p3), .val (.long q4), .second] [(.ref a1)]))
  refine Gd.st (fun _ k => XS.iloadN X1.here hx rfl (hb hby d2_5) rfl k) ?_
  show Gd p.tables e below _ (T1.setTop (mkF m 6 #[.val (.ref a1), .val (.int p2), .val (.int p3), .val (.long q4), .second] [(.int p2), (.ref a1)]))
  obtain ⟨T2, h2, X2, e2, W2, st2⟩ := putF X1 hx hZ hown (host := "") (Or.inl (hw _ (List.mem_of_getElem? (i := 20) rfl))) Via.refl e1 F0_0 E0 (Or.inr ⟨(hw _ (List.mem_of_getElem? (i := 21) rfl)), rfl, hnm⟩) (hw _ (List.mem_of_getElem? (i := 7) rfl)) (ty := .int) (by decide) rfl rfl (g := (mkF m 6 #[.val (.ref a1), .val (.int p2), .val (.int p3), .val (.long q4), .second] [(.int p2), (.ref a1)])) rfl rfl (hb hby d2_6)
  refine Gd.st st2 ?_
  have Fw2 := F0_0.same W2
  have N2 := Fr.snoc X2 N1 g_a1
  have Z3 : n0 ≤ h2.size := Nat.le_trans Z0 (Keep.of_wr W2).1
  have K4 : Keep h0 h2 [a1] := (Keep.refl h0 [a1]).wr W2 (Or.inl (List.mem_of_getElem? (i := 0) rfl))
  show Gd p.tables e below _ (T2.setTop (mkF m 9 #[.val (.ref a1), .val (.int p2), .val (.int p3), .val (.long q4), .second] []))
  refine Gd.st (fun _ k => XS.aloadN X2.here hx rfl (hb hby d2_9) rfl rfl k) ?_
  show Gd p.tables e below _ (T2.setTop (mkF m 10 #[.val (.ref a1), .val (.int p2), .val (.int p3), .val (.long q4), .second] [(.ref a1)]))
  refine Gd.st (fun _ k => XS.iloadN X2.here hx rfl (hb hby d2_10) rfl k) ?_
  show Gd p.tables e below _ (T2.setTop (mkF m 11 #[.val (.ref a1), .val (.int p2), .val (.int p3), .val (.long q4), .second] [(.int p3), (.ref a1)]))
  have q5 := (Fld.other W2 F0_1 (Or.inr (slot_ne (Or.inr (hw _ (List.mem_of_getElem? (i := 23) rfl))) (Or.inr (hw _ (List.mem_of_getElem? (i := 21) rfl))) (by decide) (t := .int) (t' := .int) (by decide) (by decide))))
  have q6 := (E0.wr W2)
  obtain ⟨T7, h7, X7, e7, W7, st7⟩ := putF X2 hx hZ hown (host := "") (Or.inl (hw _ (List.mem_of_getElem? (i := 22) rfl))) Via.refl e2 q5 q6 (Or.inr ⟨(hw _ (List.mem_of_getElem? (i := 23) rfl)), rfl, hnm⟩) (hw _ (List.mem_of_getElem? (i := 7) rfl)) (ty := .int) (by decide) rfl rfl (g := (mkF m 11 #[.val (.ref a1), .val (.int p2), .val (.int p3), .val (.long q4), .second] [(.int p3), (.ref a1)])) rfl rfl (hb hby d2_11)
  refine Gd.st st7 ?_
  have Fw7 := q5.same W7
  have N7 := Fr.snoc X7 N2 g_a1
  have Z8 : n0 ≤ h7.size := Nat.le_trans Z3 (Keep.of_wr W7).1
  have K9 : Keep h0 h7 [a1] := K4.wr W7 (Or.inl (List.mem_of_getElem? (i := 0) rfl))
  show Gd p.tables e below _ (T7.setTop (mkF m 14 #[.val (.ref a1), .val (.int p2), .val (.int p3), .val (.long q4), .second] []))
  refine Gd.st (fun _ k => XS.aloadN X7.here hx rfl (hb hby d2_14) rfl rfl k) ?_
  show Gd p.tables e below _ (T7.setTop (mkF m 15 #[.val (.ref a1), .val (.int p2), .val (.int p3), .val (.long q4), .second] [(.ref a1)]))
  refine Gd.st (fun _ k => XS.lloadN X7.here hx rfl (hb hby d2_15) rfl k) ?_
  show Gd p.tables e below _ (T7.setTop (mkF m 16 #[.val (.ref a1), .val (.int p2), .val (.int p3), .val (.long q4), .second] [(.long q4), (.ref a1)]))
  have q10 := (Fld.other W7 (Fld.other W2 F0_2 (Or.inr (slot_ne (Or.inr (hw _ (List.mem_of_getElem? (i := 25) rfl))) (Or.inr (hw _ (List.mem_of_getElem? (i := 21) rfl))) (by decide) (t := .long) (t' := .int) (by decide) (by decide)))) (Or.inr (slot_ne (Or.inr (hw _ (List.mem_of_getElem? (i := 25) rfl))) (Or.inr (hw _ (List.mem_of_getElem? (i := 23) rfl))) (by decide) (t := .long) (t' := .int) (by decide) (by decide))))
  have q11 := (q6.wr W7)
  obtain ⟨T12, h12, X12, e12, W12, st12⟩ := putF X7 hx hZ hown (host := "") (Or.inl (hw _ (List.mem_of_getElem? (i := 24) rfl))) Via.refl e7 q10 q11 (Or.inr ⟨(hw _ (List.mem_of_getElem? (i := 25) rfl)), rfl, hnm⟩) (hw _ (List.mem_of_getElem? (i := 7) rfl)) (ty := .long) (by decide) rfl rfl (g := (mkF m 16 #[.val (.ref a1), .val (.int p2), .val (.int p3), .val (.long q4), .second] [(.long q4), (.ref a1)])) rfl rfl (hb hby d2_16)
  refine Gd.st st12 ?_
  have Fw12 := q10.same W12
  have N12 := Fr.snoc X12 N7 g_a1
  have Z13 : n0 ≤ h12.size := Nat.le_trans Z8 (Keep.of_wr W12).1
  have K14 : Keep h0 h12 [a1] := K9.wr W12 (Or.inl (List.mem_of_getElem? (i := 0) rfl))
  show Gd p.tables e below _ (T12.setTop (mkF m 19 #[.val (.ref a1), .val (.int p2), .val (.int p3), .val (.long q4), .second] []))
  obtain ⟨fs, hr, hrun, hended, hW, hsame⟩ := X12.leave (v := none) (fun _ => rfl) Bd.notSynchronized
  have q15 := (q11.wr W12)
  have q16 := (Fld.other W12 (Fld.other W7 Fw2 (Or.inr (slot_ne (Or.inr (hw _ (List.mem_of_getElem? (i := 21) rfl))) (Or.inr (hw _ (List.mem_of_getElem? (i := 23) rfl))) (by decide) (t := .int) (t' := .int) (by decide) (by decide)))) (Or.inr (slot_ne (Or.inr (hw _ (List.mem_of_getElem? (i := 21) rfl))) (Or.inr (hw _ (List.mem_of_getElem? (i := 25) rfl))) (by decide) (t := .int) (t' := .long) (by decide) (by decide))))
  have q17 := (Fld.other W12 Fw7 (Or.inr (slot_ne (Or.inr (hw _ (List.mem_of_getElem? (i := 23) rfl))) (Or.inr (hw _ (List.mem_of_getElem? (i := 25) rfl))) (by decide) (t := .int) (t' := .long) (by decide) (by decide))))
  refine Gd.mk (o := .returned (none)) (X12.returnOut hx Bd.returns (hb hby d2_19) hr) ⟨hrun, hended, _, _, rfl, ?_, ⟨_, rfl⟩, hW, hsame.mono (by decide) (by decide)⟩
  show Q2 Z a1 p2 p3 q4 h0 n0 _ T12.heap _
  rw [e12]
  exact ⟨rfl, N12, K14, q15, q16, q17, Fw12⟩
theorem d5_0 : decode prog_9_method_4_code 0 = .ok (.aload_n 0, 1) := by decide +kernel
theorem d5_1 : decode prog_9_method_4_code 1 = .ok (.getfield 15, 3) := by decide +kernel
theorem d5_4 : decode prog_9_method_4_code 4 = .ok (.ifCond .eq 22, 3) := by decide +kernel
theorem d5_7 : decode prog_9_method_4_code 7 = .ok (.lload_n 1, 1) := by decide +kernel
theorem d5_8 : decode prog_9_method_4_code 8 = .ok (.bipush 64, 2) := by decide +kernel
theorem d5_10 : decode prog_9_method_4_code 10 = .ok (.iconst 4, 1) := by decide +kernel
theorem d5_11 : decode prog_9_method_4_code 11 = .ok (.aload_n 0, 1) := by decide +kernel
theorem d5_12 : decode prog_9_method_4_code 12 = .ok (.getfield 15, 3) := by decide +kernel
theorem d5_15 : decode prog_9_method_4_code 15 = .ok (.imul, 1) := by decide +kernel
theorem d5_16 : decode prog_9_method_4_code 16 = .ok (.isub, 1) := by decide +kernel
theorem d5_17 : decode prog_9_method_4_code 17 = .ok (.lushr, 1) := by decide +kernel
theorem d5_18 : decode prog_9_method_4_code 18 = .ok (.aload_n 0, 1) := by decide +kernel
theorem d5_19 : decode prog_9_method_4_code 19 = .ok (.getfield 18, 3) := by decide +kernel
theorem d5_22 : decode prog_9_method_4_code 22 = .ok (.lcmp, 1) := by decide +kernel
theorem d5_23 : decode prog_9_method_4_code 23 = .ok (.ifCond .ne 7, 3) := by decide +kernel
theorem d5_26 : decode prog_9_method_4_code 26 = .ok (.iconst 1, 1) := by decide +kernel
theorem d5_27 : decode prog_9_method_4_code 27 = .ok (.goto 4, 3) := by decide +kernel
theorem d5_30 : decode prog_9_method_4_code 30 = .ok (.iconst 0, 1) := by decide +kernel
theorem d5_31 : decode prog_9_method_4_code 31 = .ok (.ireturn, 1) := by decide +kernel
theorem ef_5 (m : MethodId) (x0 : Addr) (x1 : Int64) : entryFrame m #[(.ref x0), (.long x1)] 3 = mkF m 0 #[.val (.ref x0), .val (.long x1), .second] [] := by first | (simp [entryFrame, mkF, argsToLocals, Value.category]; done) | rfl
def Q5 (Z : State) (a1 : Addr) (q2 : Int64) (p3 : Int32) (q4 : Int64) (h0 : Heap) (n0 : Nat) (v : Option Value) (h : Heap) (L : List Loc) : Prop := v = some (.int (own_cov p3 q4 q2)) ∧ Fr n0 L ∧ h = h0
set_option maxRecDepth 65536 in
set_option maxHeartbeats 40000000 in
theorem rm5 (l : Launch) (Z : State) (a0 : Array Value) (hw : ∀ d ∈ tables_1, d.before a0 Z = true) (ws : List Jvm.Cond) (a1 : Addr) (q2 : Int64) (p3 : Int32) (q4 : Int64) (h0 : Heap) (n0 : Nat) (Z0 : n0 ≤ h0.size) (F0_0 : Fld Z h0 a1 "com/example/tattle/tattle/antientropy/HashTrees$Node" "depth" "I" (.int p3)) (F0_1 : Fld Z h0 a1 "com/example/tattle/tattle/antientropy/HashTrees$Node" "prefix" "J" (.long q4)) :
    MetFree l (⟨"com/example/tattle/tattle/antientropy/HashTrees$Node", "covers", "(J)Z"⟩ : MethodName) (head1 (Jvm.Cond.code (⟨"com/example/tattle/tattle/antientropy/HashTrees$Node", "covers", "(J)Z"⟩ : MethodName) prog_9_method_4_code 3 (some .boolean) :: ws) ({ frames := 0, cells := 0, slots := 0, locals := 0 } : Room)) (fun a U => a = #[(.ref a1), (.long q2)] ∧ Z.Warmed39 U.vm ∧ U.heap = h0) (fun _ _ _ _ _ => True) (fun _ U o U' => ∃ v L, o = .returned v ∧ Q5 Z a1 q2 p3 q4 h0 n0 v U'.heap L ∧ FrameEnd U o U' L ({ frames := 0, cells := 0, slots := 0, locals := 0 } : Room).cells ({ frames := 0, cells := 0, slots := 0, locals := 0 } : Room).slots) := by
  refine MetFree.of_bodySF (plainFor_of_name pn_HashTrees_Node) hisR ?_
  intro p e s m args below meth c s₁ Bd hml0 hP hK
  obtain ⟨rfl, hZ, hh⟩ := hP
  have hx := Bd.exec
  have hby := Bd.bytes
  have hml : c.maxLocals = 3 := hml0
  have hown : s.vm.findClass "com/example/tattle/tattle/antientropy/HashTrees$Node" = some m.cls := findClass_of_methodNamed Bd.named
  have hnm := (name_of_methodNamed Bd.named Bd.method).1
  have X0 : Stand p l e ({ frames := 0, cells := 0, slots := 0, locals := 0 } : Room) s m #[(.ref a1), (.long q2)] below meth c s₁ [] 0 0 := Stand.of_body Bd
  have e0 : s₁.heap = h0 := by rw [← hh, Bd.state]; rfl
  have N0 := Fr.nil n0
  refine Gd.out (Gd.st (fun t k => castTop (ef_5 m a1 q2) k) ?_)
  show Gd p.tables e below _ (s₁.setTop (mkF m 0 #[.val (.ref a1), .val (.long q2), .second] []))
  refine Gd.st (fun _ k => XS.aloadN X0.here hx rfl (hb hby d5_0) rfl rfl k) ?_
  show Gd p.tables e below _ (s₁.setTop (mkF m 1 #[.val (.ref a1), .val (.long q2), .second] [(.ref a1)]))
  obtain ⟨T1, X1, e1, st1⟩ := getF X0 hx hZ hown (host := "") (Or.inl (hw _ (List.mem_of_getElem? (i := 22) rfl))) Via.refl e0 F0_0 (g := (mkF m 1 #[.val (.ref a1), .val (.long q2), .second] [(.ref a1)])) rfl rfl (hb hby d5_1)
  refine Gd.st st1 ?_
  show Gd p.tables e below _ (T1.setTop (mkF m 4 #[.val (.ref a1), .val (.long q2), .second] [(.int p3)]))
  by_cases hc4 : p3 = (0 : Int32)
  · skip
    refine Gd.st (fun _ k => XS.ifYes X1.here hx rfl (pc0 := 4) (pc' := 26) rfl (hb hby d5_4) rfl ((if0 _ _).trans (teq hc4).1) (by decide) (by decide) k) ?_
    show Gd p.tables e below _ (T1.setTop (mkF m 26 #[.val (.ref a1), .val (.long q2), .second] []))
    refine Gd.st (fun _ k => XS.iconst X1.here hx rfl (hb hby d5_26) k) ?_
    show Gd p.tables e below _ (T1.setTop (mkF m 27 #[.val (.ref a1), .val (.long q2), .second] [(.int (1 : Int32))]))
    refine Gd.st (fun _ k => XS.goto X1.here hx rfl (pc0 := 27) (pc' := 31) rfl (hb hby d5_27) (by decide) (by decide) k) ?_
    show Gd p.tables e below _ (T1.setTop (mkF m 31 #[.val (.ref a1), .val (.long q2), .second] [(.int (1 : Int32))]))
    obtain ⟨fs, hr, hrun, hended, hW, hsame⟩ := X1.leave (v := some (.int (1 : Int32))) (fun h => by rw [Bd.returns] at h; cases h) Bd.notSynchronized
    refine Gd.mk (o := .returned (some (.int (1 : Int32)))) (retN X1 hx (t := .boolean) Bd.returns (by simp) (hb hby d5_31) hr) ⟨hrun, hended, _, _, rfl, ?_, ⟨_, rfl⟩, hW, hsame.mono (by decide) (by decide)⟩
    show Q5 Z a1 q2 p3 q4 h0 n0 _ T1.heap _
    rw [e1]
    exact ⟨(by first | (simp only [own_cov, eq_true hc4, not_true_eq_false, not_false_eq_true, and_true, true_and, and_false, false_and, or_true, true_or, or_false, false_or, if_true, if_false]; done) | simp [own_cov, eq_true hc4]), N0, rfl⟩
  · skip
    refine Gd.st (fun _ k => XS.ifNo X1.here hx rfl (hb hby d5_4) rfl ((if0 _ _).trans (feq hc4).1) k) ?_
    show Gd p.tables e below _ (T1.setTop (mkF m 7 #[.val (.ref a1), .val (.long q2), .second] []))
    refine Gd.st (fun _ k => XS.lloadN X1.here hx rfl (hb hby d5_7) rfl k) ?_
    show Gd p.tables e below _ (T1.setTop (mkF m 8 #[.val (.ref a1), .val (.long q2), .second] [(.long q2)]))
    refine Gd.st (fun _ k => XS.bipush X1.here hx rfl (hb hby d5_8) k) ?_
    show Gd p.tables e below _ (T1.setTop (mkF m 10 #[.val (.ref a1), .val (.long q2), .second] [(.int (64 : Int32)), (.long q2)]))
    refine Gd.st (fun _ k => XS.iconst X1.here hx rfl (hb hby d5_10) k) ?_
    show Gd p.tables e below _ (T1.setTop (mkF m 11 #[.val (.ref a1), .val (.long q2), .second] [(.int (4 : Int32)), (.int (64 : Int32)), (.long q2)]))
    refine Gd.st (fun _ k => XS.aloadN X1.here hx rfl (hb hby d5_11) rfl rfl k) ?_
    show Gd p.tables e below _ (T1.setTop (mkF m 12 #[.val (.ref a1), .val (.long q2), .second] [(.ref a1), (.int (4 : Int32)), (.int (64 : Int32)), (.long q2)]))
    obtain ⟨T2, X2, e2, st2⟩ := getF X1 hx hZ hown (host := "") (Or.inl (hw _ (List.mem_of_getElem? (i := 22) rfl))) Via.refl e1 F0_0 (g := (mkF m 12 #[.val (.ref a1), .val (.long q2), .second] [(.ref a1), (.int (4 : Int32)), (.int (64 : Int32)), (.long q2)])) rfl rfl (hb hby d5_12)
    refine Gd.st st2 ?_
    show Gd p.tables e below _ (T2.setTop (mkF m 15 #[.val (.ref a1), .val (.long q2), .second] [(.int p3), (.int (4 : Int32)), (.int (64 : Int32)), (.long q2)]))
    refine Gd.st (fun _ k => XS.imul X2.here hx rfl (hb hby d5_15) rfl k) ?_
    show Gd p.tables e below _ (T2.setTop (mkF m 16 #[.val (.ref a1), .val (.long q2), .second] [(.int ((4 : Int32) * p3)), (.int (64 : Int32)), (.long q2)]))
    refine Gd.st (fun _ k => XS.isub X2.here hx rfl (hb hby d5_16) rfl k) ?_
    show Gd p.tables e below _ (T2.setTop (mkF m 17 #[.val (.ref a1), .val (.long q2), .second] [(.int (own_s p3)), (.long q2)]))
    refine Gd.st (fun _ k => XS.lushr X2.here hx rfl (hb hby d5_17) rfl k) ?_
    show Gd p.tables e below _ (T2.setTop (mkF m 18 #[.val (.ref a1), .val (.long q2), .second] [(.long ((q2.toUInt64 >>> ((own_s p3) &&& 0x3f).toInt64.toUInt64).toInt64))]))
    refine Gd.st (fun _ k => XS.aloadN X2.here hx rfl (hb hby d5_18) rfl rfl k) ?_
    show Gd p.tables e below _ (T2.setTop (mkF m 19 #[.val (.ref a1), .val (.long q2), .second] [(.ref a1), (.long ((q2.toUInt64 >>> ((own_s p3) &&& 0x3f).toInt64.toUInt64).toInt64))]))
    obtain ⟨T3, X3, e3, st3⟩ := getF X2 hx hZ hown (host := "") (Or.inl (hw _ (List.mem_of_getElem? (i := 24) rfl))) Via.refl e2 F0_1 (g := (mkF m 19 #[.val (.ref a1), .val (.long q2), .second] [(.ref a1), (.long ((q2.toUInt64 >>> ((own_s p3) &&& 0x3f).toInt64.toUInt64).toInt64))])) rfl rfl (hb hby d5_19)
    refine Gd.st st3 ?_
    show Gd p.tables e below _ (T3.setTop (mkF m 22 #[.val (.ref a1), .val (.long q2), .second] [(.long q4), (.long ((q2.toUInt64 >>> ((own_s p3) &&& 0x3f).toInt64.toUInt64).toInt64))]))
    refine Gd.st (fun _ k => XS.lcmp X3.here hx rfl (hb hby d5_22) rfl k) ?_
    show Gd p.tables e below _ (T3.setTop (mkF m 23 #[.val (.ref a1), .val (.long q2), .second] [(.int (lcmpW ((q2.toUInt64 >>> ((own_s p3) &&& 0x3f).toInt64.toUInt64).toInt64) q4))]))
    by_cases hc23 : ((q2.toUInt64 >>> ((own_s p3) &&& 0x3f).toInt64.toUInt64).toInt64) = q4
    · skip
      refine Gd.st (fun _ k => XS.ifNo X3.here hx rfl (hb hby d5_23) rfl ((if0 _ _).trans (teq ((lw_eq ((q2.toUInt64 >>> ((own_s p3) &&& 0x3f).toInt64.toUInt64).toInt64) q4).mpr hc23)).2) k) ?_
      show Gd p.tables e below _ (T3.setTop (mkF m 26 #[.val (.ref a1), .val (.long q2), .second] []))
      refine Gd.st (fun _ k => XS.iconst X3.here hx rfl (hb hby d5_26) k) ?_
      show Gd p.tables e below _ (T3.setTop (mkF m 27 #[.val (.ref a1), .val (.long q2), .second] [(.int (1 : Int32))]))
      refine Gd.st (fun _ k => XS.goto X3.here hx rfl (pc0 := 27) (pc' := 31) rfl (hb hby d5_27) (by decide) (by decide) k) ?_
      show Gd p.tables e below _ (T3.setTop (mkF m 31 #[.val (.ref a1), .val (.long q2), .second] [(.int (1 : Int32))]))
      obtain ⟨fs, hr, hrun, hended, hW, hsame⟩ := X3.leave (v := some (.int (1 : Int32))) (fun h => by rw [Bd.returns] at h; cases h) Bd.notSynchronized
      refine Gd.mk (o := .returned (some (.int (1 : Int32)))) (retN X3 hx (t := .boolean) Bd.returns (by simp) (hb hby d5_31) hr) ⟨hrun, hended, _, _, rfl, ?_, ⟨_, rfl⟩, hW, hsame.mono (by decide) (by decide)⟩
      show Q5 Z a1 q2 p3 q4 h0 n0 _ T3.heap _
      rw [e3]
      exact ⟨(by first | (simp only [own_cov, eq_false hc4, eq_true hc23, not_true_eq_false, not_false_eq_true, and_true, true_and, and_false, false_and, or_true, true_or, or_false, false_or, if_true, if_false]; done) | simp [own_cov, eq_false hc4, eq_true hc23]), N0, rfl⟩
    · skip
      refine Gd.st (fun _ k => XS.ifYes X3.here hx rfl (pc0 := 23) (pc' := 30) rfl (hb hby d5_23) rfl ((if0 _ _).trans (feq (fun q => hc23 ((lw_eq ((q2.toUInt64 >>> ((own_s p3) &&& 0x3f).toInt64.toUInt64).toInt64) q4).mp q))).2) (by decide) (by decide) k) ?_
      show Gd p.tables e below _ (T3.setTop (mkF m 30 #[.val (.ref a1), .val (.long q2), .second] []))
      refine Gd.st (fun _ k => XS.iconst X3.here hx rfl (hb hby d5_30) k) ?_
      show Gd p.tables e below _ (T3.setTop (mkF m 31 #[.val (.ref a1), .val (.long q2), .second] [(.int (0 : Int32))]))
      obtain ⟨fs, hr, hrun, hended, hW, hsame⟩ := X3.leave (v := some (.int (0 : Int32))) (fun h => by rw [Bd.returns] at h; cases h) Bd.notSynchronized
      refine Gd.mk (o := .returned (some (.int (0 : Int32)))) (retN X3 hx (t := .boolean) Bd.returns (by simp) (hb hby d5_31) hr) ⟨hrun, hended, _, _, rfl, ?_, ⟨_, rfl⟩, hW, hsame.mono (by decide) (by decide)⟩
      show Q5 Z a1 q2 p3 q4 h0 n0 _ T3.heap _
      rw [e3]
      exact ⟨(by first | (simp only [own_cov, eq_false hc4, eq_false hc23, not_true_eq_false, not_false_eq_true, and_true, true_and, and_false, false_and, or_true, true_or, or_false, false_or, if_true, if_false]; done) | simp [own_cov, eq_false hc4, eq_false hc23]), N0, rfl⟩
theorem ef_0 (m : MethodId) (x0 : Int32) (x1 : Int32) (x2 : Int64) (x3 : Int64) (x4 : Int32) : entryFrame m #[(.int x0), (.int x1), (.long x2), (.long x3), (.int x4)] maxLocals = mkF m 0 #[.val (.int x0), .val (.int x1), .val (.long x2), .second, .val (.long x3), .second, .val (.int x4), .unset, .unset, .unset, .unset, .unset, .unset, .unset, .unset, .unset, .unset, .unset, .unset, .unset, .unset, .unset] [] := by first | (simp [entryFrame, mkF, argsToLocals, Value.category, maxLocals]; done) | rfl
theorem pd__JJ_Z_5 : parseMethodDescriptor "(JJ)Z" = some ⟨[.long, .long], some .boolean⟩ := by decide +kernel
theorem pd__IIJ_V_6 : parseMethodDescriptor "(IIJ)V" = some ⟨[.int, .int, .long], none⟩ := by decide +kernel
theorem pd__J_Z_4 : parseMethodDescriptor "(J)Z" = some ⟨[.long], some .boolean⟩ := by decide +kernel
def Q0 (Z : State) (p1 : Int32) (p2 : Int32) (q3 : Int64) (q4 : Int64) (p5 : Int32) (h0 : Heap) (n0 : Nat) (v : Option Value) (h : Heap) (L : List Loc) : Prop := v = some (.int (1 : Int32)) ∧ Fr n0 L
set_option maxRecDepth 65536 in
set_option maxHeartbeats 40000000 in
theorem rm0 (l : Launch) (Z : State) (a0 : Array Value) (hw : ∀ d ∈ tables_1, d.before a0 Z = true) (ws : List Jvm.Cond) (p1 : Int32) (p2 : Int32) (q3 : Int64) (q4 : Int64) (p5 : Int32) (h0 : Heap) (n0 : Nat) (Z0 : n0 ≤ h0.size) :
    MetFree l x (head1 (Jvm.Cond.code x code maxLocals ret :: ws) room_1) (fun a U => a = #[(.int p1), (.int p2), (.long q3), (.long q4), (.int p5)] ∧ Z.Warmed39 U.vm ∧ U.heap = h0) (fun _ _ _ _ _ => True) (fun _ U o U' => ∃ v L, o = .returned v ∧ Q0 Z p1 p2 q3 q4 p5 h0 n0 v U'.heap L ∧ FrameEnd U o U' L room_1.cells room_1.slots) := by
  refine MetFree.of_bodySF (plainFor_of_name pn_HashTreesCoversPinLaw) hisR ?_
  intro p e s m args below meth c s₁ Bd hml0 hP hK
  obtain ⟨rfl, hZ, hh⟩ := hP
  have hx := Bd.exec
  have hby := Bd.bytes
  have hml : c.maxLocals = 22 := hml0
  have hown : s.vm.findClass "com/example/tattle/tattle/antientropy/HashTreesCoversPinLaw" = some m.cls := findClass_of_methodNamed Bd.named
  have hnm := (name_of_methodNamed Bd.named Bd.method).1
  have X0 : Stand p l e room_1 s m #[(.int p1), (.int p2), (.long q3), (.long q4), (.int p5)] below meth c s₁ [] 0 0 := Stand.of_body Bd
  have e0 : s₁.heap = h0 := by rw [← hh, Bd.state]; rfl
  have N0 := Fr.nil n0
  refine Gd.out (Gd.st (fun t k => castTop (ef_0 m p1 p2 q3 q4 p5) k) ?_)
  show Gd p.tables e below _ (s₁.setTop (mkF m 0 #[.val (.int p1), .val (.int p2), .val (.long q3), .second, .val (.long q4), .second, .val (.int p5), .unset, .unset, .unset, .unset, .unset, .unset, .unset, .unset, .unset, .unset, .unset, .unset, .unset, .unset, .unset] []))
  refine Gd.st (fun _ k => XS.iloadN X0.here hx rfl (hb hby at_0) rfl k) ?_
  show Gd p.tables e below _ (s₁.setTop (mkF m 1 #[.val (.int p1), .val (.int p2), .val (.long q3), .second, .val (.long q4), .second, .val (.int p5), .unset, .unset, .unset, .unset, .unset, .unset, .unset, .unset, .unset, .unset, .unset, .unset, .unset, .unset, .unset] [(.int p2)]))
  refine Gd.st (fun _ k => X0.ldcInt hx hown (mvT hZ (hw _ (List.mem_of_getElem? (i := 0) rfl))) (g := (mkF m 1 #[.val (.int p1), .val (.int p2), .val (.long q3), .second, .val (.long q4), .second, .val (.int p5), .unset, .unset, .unset, .unset, .unset, .unset, .unset, .unset, .unset, .unset, .unset, .unset, .unset, .unset, .unset] [(.int p2)])) rfl (hb hby at_1) _ k) ?_
  show Gd p.tables e below _ (s₁.setTop (mkF m 3 #[.val (.int p1), .val (.int p2), .val (.long q3), .second, .val (.long q4), .second, .val (.int p5), .unset, .unset, .unset, .unset, .unset, .unset, .unset, .unset, .unset, .unset, .unset, .unset, .unset, .unset, .unset] [(.int (2147483647 : Int32)), (.int p2)]))
  refine Gd.st (fun _ k => XS.iand X0.here hx rfl (hb hby at_3) rfl k) ?_
  show Gd p.tables e below _ (s₁.setTop (mkF m 4 #[.val (.int p1), .val (.int p2), .val (.long q3), .second, .val (.long q4), .second, .val (.int p5), .unset, .unset, .unset, .unset, .unset, .unset, .unset, .unset, .unset, .unset, .unset, .unset, .unset, .unset, .unset] [(.int (p2 &&& (2147483647 : Int32)))]))
  refine Gd.st (fun _ k => XS.bipush X0.here hx rfl (hb hby at_4) k) ?_
  show Gd p.tables e below _ (s₁.setTop (mkF m 6 #[.val (.int p1), .val (.int p2), .val (.long q3), .second, .val (.long q4), .second, .val (.int p5), .unset, .unset, .unset, .unset, .unset, .unset, .unset, .unset, .unset, .unset, .unset, .unset, .unset, .unset, .unset] [(.int (17 : Int32)), (.int (p2 &&& (2147483647 : Int32)))]))
  refine Gd.st (fun _ k => XS.irem X0.here hx rfl (hb hby at_6) rfl (by decide) k) ?_
  show Gd p.tables e below _ (s₁.setTop (mkF m 7 #[.val (.int p1), .val (.int p2), .val (.long q3), .second, .val (.long q4), .second, .val (.int p5), .unset, .unset, .unset, .unset, .unset, .unset, .unset, .unset, .unset, .unset, .unset, .unset, .unset, .unset, .unset] [(.int (own_d p2))]))
  refine Gd.st (fun _ k => XS.istore X0.here hx rfl (hb hby at_7) rfl (l' := #[.val (.int p1), .val (.int p2), .val (.long q3), .second, .val (.long q4), .second, .val (.int p5), .val (.int (own_d p2)), .unset, .unset, .unset, .unset, .unset, .unset, .unset, .unset, .unset, .unset, .unset, .unset, .unset, .unset]) rfl k) ?_
  show Gd p.tables e below _ (s₁.setTop (mkF m 9 #[.val (.int p1), .val (.int p2), .val (.long q3), .second, .val (.long q4), .second, .val (.int p5), .val (.int (own_d p2)), .unset, .unset, .unset, .unset, .unset, .unset, .unset, .unset, .unset, .unset, .unset, .unset, .unset, .unset] []))
  refine Gd.st (fun _ k => XS.iconst X0.here hx rfl (hb hby at_9) k) ?_
  show Gd p.tables e below _ (s₁.setTop (mkF m 10 #[.val (.int p1), .val (.int p2), .val (.long q3), .second, .val (.long q4), .second, .val (.int p5), .val (.int (own_d p2)), .unset, .unset, .unset, .unset, .unset, .unset, .unset, .unset, .unset, .unset, .unset, .unset, .unset, .unset] [(.int (4 : Int32))]))
  refine Gd.st (fun _ k => XS.iload X0.here hx rfl (hb hby at_10) rfl k) ?_
  show Gd p.tables e below _ (s₁.setTop (mkF m 12 #[.val (.int p1), .val (.int p2), .val (.long q3), .second, .val (.long q4), .second, .val (.int p5), .val (.int (own_d p2)), .unset, .unset, .unset, .unset, .unset, .unset, .unset, .unset, .unset, .unset, .unset, .unset, .unset, .unset] [(.int (own_d p2)), (.int (4 : Int32))]))
  refine Gd.st (fun _ k => XS.imul X0.here hx rfl (hb hby at_12) rfl k) ?_
  show Gd p.tables e below _ (s₁.setTop (mkF m 13 #[.val (.int p1), .val (.int p2), .val (.long q3), .second, .val (.long q4), .second, .val (.int p5), .val (.int (own_d p2)), .unset, .unset, .unset, .unset, .unset, .unset, .unset, .unset, .unset, .unset, .unset, .unset, .unset, .unset] [(.int ((4 : Int32) * (own_d p2)))]))
  refine Gd.st (fun _ k => XS.istore X0.here hx rfl (hb hby at_13) rfl (l' := #[.val (.int p1), .val (.int p2), .val (.long q3), .second, .val (.long q4), .second, .val (.int p5), .val (.int (own_d p2)), .val (.int ((4 : Int32) * (own_d p2))), .unset, .unset, .unset, .unset, .unset, .unset, .unset, .unset, .unset, .unset, .unset, .unset, .unset]) rfl k) ?_
  show Gd p.tables e below _ (s₁.setTop (mkF m 15 #[.val (.int p1), .val (.int p2), .val (.long q3), .second, .val (.long q4), .second, .val (.int p5), .val (.int (own_d p2)), .val (.int ((4 : Int32) * (own_d p2))), .unset, .unset, .unset, .unset, .unset, .unset, .unset, .unset, .unset, .unset, .unset, .unset, .unset] []))
  refine Gd.join (B := s₁.setTop (mkF m 38 #[.val (.int p1), .val (.int p2), .val (.long q3), .second, .val (.long q4), .second, .val (.int p5), .val (.int (own_d p2)), .val (.int ((4 : Int32) * (own_d p2))), .val (.long (own_pre (own_d p2) q3)), .second, .unset, .unset, .unset, .unset, .unset, .unset, .unset, .unset, .unset, .unset, .unset] [])) (fun J => ?_) ?_
  · skip
    refine Gd.st (fun _ k => XS.iload X0.here hx rfl (hb hby at_15) rfl k) ?_
    show Gd p.tables e below _ (s₁.setTop (mkF m 17 #[.val (.int p1), .val (.int p2), .val (.long q3), .second, .val (.long q4), .second, .val (.int p5), .val (.int (own_d p2)), .val (.int ((4 : Int32) * (own_d p2))), .unset, .unset, .unset, .unset, .unset, .unset, .unset, .unset, .unset, .unset, .unset, .unset, .unset] [(.int (own_d p2))]))
    refine Gd.st (fun _ k => XS.bipush X0.here hx rfl (hb hby at_17) k) ?_
    show Gd p.tables e below _ (s₁.setTop (mkF m 19 #[.val (.int p1), .val (.int p2), .val (.long q3), .second, .val (.long q4), .second, .val (.int p5), .val (.int (own_d p2)), .val (.int ((4 : Int32) * (own_d p2))), .unset, .unset, .unset, .unset, .unset, .unset, .unset, .unset, .unset, .unset, .unset, .unset, .unset] [(.int (16 : Int32)), (.int (own_d p2))]))
    by_cases hc19 : (own_d p2) = (16 : Int32)
    · skip
      refine Gd.st (fun _ k => XS.icmpNo X0.here hx rfl (hb hby at_19) rfl (teq hc19).2 k) ?_
      show Gd p.tables e below _ (s₁.setTop (mkF m 22 #[.val (.int p1), .val (.int p2), .val (.long q3), .second, .val (.long q4), .second, .val (.int p5), .val (.int (own_d p2)), .val (.int ((4 : Int32) * (own_d p2))), .unset, .unset, .unset, .unset, .unset, .unset, .unset, .unset, .unset, .unset, .unset, .unset, .unset] []))
      refine Gd.st (fun _ k => XS.lloadN X0.here hx rfl (hb hby at_22) rfl k) ?_
      show Gd p.tables e below _ (s₁.setTop (mkF m 23 #[.val (.int p1), .val (.int p2), .val (.long q3), .second, .val (.long q4), .second, .val (.int p5), .val (.int (own_d p2)), .val (.int ((4 : Int32) * (own_d p2))), .unset, .unset, .unset, .unset, .unset, .unset, .unset, .unset, .unset, .unset, .unset, .unset, .unset] [(.long q3)]))
      refine Gd.st (fun _ k => XS.lstore X0.here hx rfl (hb hby at_23) rfl (l' := #[.val (.int p1), .val (.int p2), .val (.long q3), .second, .val (.long q4), .second, .val (.int p5), .val (.int (own_d p2)), .val (.int ((4 : Int32) * (own_d p2))), .val (.long q3), .second, .unset, .unset, .unset, .unset, .unset, .unset, .unset, .unset, .unset, .unset, .unset]) rfl k) ?_
      show Gd p.tables e below _ (s₁.setTop (mkF m 25 #[.val (.int p1), .val (.int p2), .val (.long q3), .second, .val (.long q4), .second, .val (.int p5), .val (.int (own_d p2)), .val (.int ((4 : Int32) * (own_d p2))), .val (.long q3), .second, .unset, .unset, .unset, .unset, .unset, .unset, .unset, .unset, .unset, .unset, .unset] []))
      refine Gd.st (fun _ k => XS.goto X0.here hx rfl (pc0 := 25) (pc' := 38) rfl (hb hby at_25) (by decide) (by decide) k) ?_
      show Gd p.tables e below _ (s₁.setTop (mkF m 38 #[.val (.int p1), .val (.int p2), .val (.long q3), .second, .val (.long q4), .second, .val (.int p5), .val (.int (own_d p2)), .val (.int ((4 : Int32) * (own_d p2))), .val (.long q3), .second, .unset, .unset, .unset, .unset, .unset, .unset, .unset, .unset, .unset, .unset, .unset] []))
      rw [show (own_pre (own_d p2) q3) = q3 from (by first | (simp only [own_pre, eq_true hc19, not_true_eq_false, not_false_eq_true, and_true, true_and, and_false, false_and, or_true, true_or, or_false, false_or, if_true, if_false]; done) | simp [own_pre, eq_true hc19])] at J
      exact J
    · skip
      refine Gd.st (fun _ k => XS.icmpYes X0.here hx rfl (pc0 := 19) (pc' := 28) rfl (hb hby at_19) rfl (feq hc19).2 (by decide) (by decide) k) ?_
      show Gd p.tables e below _ (s₁.setTop (mkF m 28 #[.val (.int p1), .val (.int p2), .val (.long q3), .second, .val (.long q4), .second, .val (.int p5), .val (.int (own_d p2)), .val (.int ((4 : Int32) * (own_d p2))), .unset, .unset, .unset, .unset, .unset, .unset, .unset, .unset, .unset, .unset, .unset, .unset, .unset] []))
      refine Gd.st (fun _ k => XS.lloadN X0.here hx rfl (hb hby at_28) rfl k) ?_
      show Gd p.tables e below _ (s₁.setTop (mkF m 29 #[.val (.int p1), .val (.int p2), .val (.long q3), .second, .val (.long q4), .second, .val (.int p5), .val (.int (own_d p2)), .val (.int ((4 : Int32) * (own_d p2))), .unset, .unset, .unset, .unset, .unset, .unset, .unset, .unset, .unset, .unset, .unset, .unset, .unset] [(.long q3)]))
      refine Gd.st (fun _ k => XS.lconst X0.here hx rfl (hb hby at_29) k) ?_
      show Gd p.tables e below _ (s₁.setTop (mkF m 30 #[.val (.int p1), .val (.int p2), .val (.long q3), .second, .val (.long q4), .second, .val (.int p5), .val (.int (own_d p2)), .val (.int ((4 : Int32) * (own_d p2))), .unset, .unset, .unset, .unset, .unset, .unset, .unset, .unset, .unset, .unset, .unset, .unset, .unset] [(.long (1 : Int64)), (.long q3)]))
      refine Gd.st (fun _ k => XS.iload X0.here hx rfl (hb hby at_30) rfl k) ?_
      show Gd p.tables e below _ (s₁.setTop (mkF m 32 #[.val (.int p1), .val (.int p2), .val (.long q3), .second, .val (.long q4), .second, .val (.int p5), .val (.int (own_d p2)), .val (.int ((4 : Int32) * (own_d p2))), .unset, .unset, .unset, .unset, .unset, .unset, .unset, .unset, .unset, .unset, .unset, .unset, .unset] [(.int ((4 : Int32) * (own_d p2))), (.long (1 : Int64)), (.long q3)]))
      refine Gd.st (fun _ k => XS.lshl X0.here hx rfl (hb hby at_32) rfl k) ?_
      show Gd p.tables e below _ (s₁.setTop (mkF m 33 #[.val (.int p1), .val (.int p2), .val (.long q3), .second, .val (.long q4), .second, .val (.int p5), .val (.int (own_d p2)), .val (.int ((4 : Int32) * (own_d p2))), .unset, .unset, .unset, .unset, .unset, .unset, .unset, .unset, .unset, .unset, .unset, .unset, .unset] [(.long ((1 : Int64) <<< (((4 : Int32) * (own_d p2)) &&& 0x3f).toInt64)), (.long q3)]))
      refine Gd.st (fun _ k => XS.lconst X0.here hx rfl (hb hby at_33) k) ?_
      show Gd p.tables e below _ (s₁.setTop (mkF m 34 #[.val (.int p1), .val (.int p2), .val (.long q3), .second, .val (.long q4), .second, .val (.int p5), .val (.int (own_d p2)), .val (.int ((4 : Int32) * (own_d p2))), .unset, .unset, .unset, .unset, .unset, .unset, .unset, .unset, .unset, .unset, .unset, .unset, .unset] [(.long (1 : Int64)), (.long ((1 : Int64) <<< (((4 : Int32) * (own_d p2)) &&& 0x3f).toInt64)), (.long q3)]))
      refine Gd.st (fun _ k => XS.lsub X0.here hx rfl (hb hby at_34) rfl k) ?_
      show Gd p.tables e below _ (s₁.setTop (mkF m 35 #[.val (.int p1), .val (.int p2), .val (.long q3), .second, .val (.long q4), .second, .val (.int p5), .val (.int (own_d p2)), .val (.int ((4 : Int32) * (own_d p2))), .unset, .unset, .unset, .unset, .unset, .unset, .unset, .unset, .unset, .unset, .unset, .unset, .unset] [(.long (((1 : Int64) <<< (((4 : Int32) * (own_d p2)) &&& 0x3f).toInt64) - (1 : Int64))), (.long q3)]))
      refine Gd.st (fun _ k => XS.land X0.here hx rfl (hb hby at_35) rfl k) ?_
      show Gd p.tables e below _ (s₁.setTop (mkF m 36 #[.val (.int p1), .val (.int p2), .val (.long q3), .second, .val (.long q4), .second, .val (.int p5), .val (.int (own_d p2)), .val (.int ((4 : Int32) * (own_d p2))), .unset, .unset, .unset, .unset, .unset, .unset, .unset, .unset, .unset, .unset, .unset, .unset, .unset] [(.long (q3 &&& (((1 : Int64) <<< (((4 : Int32) * (own_d p2)) &&& 0x3f).toInt64) - (1 : Int64))))]))
      refine Gd.st (fun _ k => XS.lstore X0.here hx rfl (hb hby at_36) rfl (l' := #[.val (.int p1), .val (.int p2), .val (.long q3), .second, .val (.long q4), .second, .val (.int p5), .val (.int (own_d p2)), .val (.int ((4 : Int32) * (own_d p2))), .val (.long (q3 &&& (((1 : Int64) <<< (((4 : Int32) * (own_d p2)) &&& 0x3f).toInt64) - (1 : Int64)))), .second, .unset, .unset, .unset, .unset, .unset, .unset, .unset, .unset, .unset, .unset, .unset]) rfl k) ?_
      show Gd p.tables e below _ (s₁.setTop (mkF m 38 #[.val (.int p1), .val (.int p2), .val (.long q3), .second, .val (.long q4), .second, .val (.int p5), .val (.int (own_d p2)), .val (.int ((4 : Int32) * (own_d p2))), .val (.long (q3 &&& (((1 : Int64) <<< (((4 : Int32) * (own_d p2)) &&& 0x3f).toInt64) - (1 : Int64)))), .second, .unset, .unset, .unset, .unset, .unset, .unset, .unset, .unset, .unset, .unset, .unset] []))
      rw [show (own_pre (own_d p2) q3) = (q3 &&& (((1 : Int64) <<< (((4 : Int32) * (own_d p2)) &&& 0x3f).toInt64) - (1 : Int64))) from (by first | (simp only [own_pre, eq_false hc19, not_true_eq_false, not_false_eq_true, and_true, true_and, and_false, false_and, or_true, true_or, or_false, false_or, if_true, if_false]; done) | simp [own_pre, eq_false hc19])] at J
      exact J
  show Gd p.tables e below _ (s₁.setTop (mkF m 38 #[.val (.int p1), .val (.int p2), .val (.long q3), .second, .val (.long q4), .second, .val (.int p5), .val (.int (own_d p2)), .val (.int ((4 : Int32) * (own_d p2))), .val (.long (own_pre (own_d p2) q3)), .second, .unset, .unset, .unset, .unset, .unset, .unset, .unset, .unset, .unset, .unset, .unset] []))
  refine Gd.join (B := s₁.setTop (mkF m 75 #[.val (.int p1), .val (.int p2), .val (.long q3), .second, .val (.long q4), .second, .val (.int p5), .val (.int (own_d p2)), .val (.int ((4 : Int32) * (own_d p2))), .val (.long (own_pre (own_d p2) q3)), .second, .val (.long (own_low (own_d p2))), .second, .unset, .unset, .unset, .unset, .unset, .unset, .unset, .unset, .unset] [])) (fun J => ?_) ?_
  · skip
    refine Gd.st (fun _ k => XS.iload X0.here hx rfl (hb hby at_38) rfl k) ?_
    show Gd p.tables e below _ (s₁.setTop (mkF m 40 #[.val (.int p1), .val (.int p2), .val (.long q3), .second, .val (.long q4), .second, .val (.int p5), .val (.int (own_d p2)), .val (.int ((4 : Int32) * (own_d p2))), .val (.long (own_pre (own_d p2) q3)), .second, .unset, .unset, .unset, .unset, .unset, .unset, .unset, .unset, .unset, .unset, .unset] [(.int (own_d p2))]))
    by_cases hc40 : (own_d p2) = (0 : Int32)
    · skip
      refine Gd.st (fun _ k => XS.ifNo X0.here hx rfl (hb hby at_40) rfl ((if0 _ _).trans (teq hc40).2) k) ?_
      show Gd p.tables e below _ (s₁.setTop (mkF m 43 #[.val (.int p1), .val (.int p2), .val (.long q3), .second, .val (.long q4), .second, .val (.int p5), .val (.int (own_d p2)), .val (.int ((4 : Int32) * (own_d p2))), .val (.long (own_pre (own_d p2) q3)), .second, .unset, .unset, .unset, .unset, .unset, .unset, .unset, .unset, .unset, .unset, .unset] []))
      refine Gd.st (fun _ k => X0.ldc2Long hx hown (mvT hZ (hw _ (List.mem_of_getElem? (i := 31) rfl))) (g := (mkF m 43 #[.val (.int p1), .val (.int p2), .val (.long q3), .second, .val (.long q4), .second, .val (.int p5), .val (.int (own_d p2)), .val (.int ((4 : Int32) * (own_d p2))), .val (.long (own_pre (own_d p2) q3)), .second, .unset, .unset, .unset, .unset, .unset, .unset, .unset, .unset, .unset, .unset, .unset] [])) rfl (hb hby at_43) _ k) ?_
      show Gd p.tables e below _ (s₁.setTop (mkF m 46 #[.val (.int p1), .val (.int p2), .val (.long q3), .second, .val (.long q4), .second, .val (.int p5), .val (.int (own_d p2)), .val (.int ((4 : Int32) * (own_d p2))), .val (.long (own_pre (own_d p2) q3)), .second, .unset, .unset, .unset, .unset, .unset, .unset, .unset, .unset, .unset, .unset, .unset] [(.long (-1 : Int64))]))
      refine Gd.st (fun _ k => XS.lstore X0.here hx rfl (hb hby at_46) rfl (l' := #[.val (.int p1), .val (.int p2), .val (.long q3), .second, .val (.long q4), .second, .val (.int p5), .val (.int (own_d p2)), .val (.int ((4 : Int32) * (own_d p2))), .val (.long (own_pre (own_d p2) q3)), .second, .val (.long (-1 : Int64)), .second, .unset, .unset, .unset, .unset, .unset, .unset, .unset, .unset, .unset]) rfl k) ?_
      show Gd p.tables e below _ (s₁.setTop (mkF m 48 #[.val (.int p1), .val (.int p2), .val (.long q3), .second, .val (.long q4), .second, .val (.int p5), .val (.int (own_d p2)), .val (.int ((4 : Int32) * (own_d p2))), .val (.long (own_pre (own_d p2) q3)), .second, .val (.long (-1 : Int64)), .second, .unset, .unset, .unset, .unset, .unset, .unset, .unset, .unset, .unset] []))
      refine Gd.st (fun _ k => XS.goto X0.here hx rfl (pc0 := 48) (pc' := 75) rfl (hb hby at_48) (by decide) (by decide) k) ?_
      show Gd p.tables e below _ (s₁.setTop (mkF m 75 #[.val (.int p1), .val (.int p2), .val (.long q3), .second, .val (.long q4), .second, .val (.int p5), .val (.int (own_d p2)), .val (.int ((4 : Int32) * (own_d p2))), .val (.long (own_pre (own_d p2) q3)), .second, .val (.long (-1 : Int64)), .second, .unset, .unset, .unset, .unset, .unset, .unset, .unset, .unset, .unset] []))
      rw [show (own_low (own_d p2)) = (-1 : Int64) from (by first | (simp only [own_low, eq_true hc40, not_true_eq_false, not_false_eq_true, and_true, true_and, and_false, false_and, or_true, true_or, or_false, false_or, if_true, if_false]; done) | simp [own_low, eq_true hc40])] at J
      exact J
    · skip
      refine Gd.st (fun _ k => XS.ifYes X0.here hx rfl (pc0 := 40) (pc' := 51) rfl (hb hby at_40) rfl ((if0 _ _).trans (feq hc40).2) (by decide) (by decide) k) ?_
      show Gd p.tables e below _ (s₁.setTop (mkF m 51 #[.val (.int p1), .val (.int p2), .val (.long q3), .second, .val (.long q4), .second, .val (.int p5), .val (.int (own_d p2)), .val (.int ((4 : Int32) * (own_d p2))), .val (.long (own_pre (own_d p2) q3)), .second, .unset, .unset, .unset, .unset, .unset, .unset, .unset, .unset, .unset, .unset, .unset] []))
      refine Gd.st (fun _ k => XS.iload X0.here hx rfl (hb hby at_51) rfl k) ?_
      show Gd p.tables e below _ (s₁.setTop (mkF m 53 #[.val (.int p1), .val (.int p2), .val (.long q3), .second, .val (.long q4), .second, .val (.int p5), .val (.int (own_d p2)), .val (.int ((4 : Int32) * (own_d p2))), .val (.long (own_pre (own_d p2) q3)), .second, .unset, .unset, .unset, .unset, .unset, .unset, .unset, .unset, .unset, .unset, .unset] [(.int (own_d p2))]))
      refine Gd.st (fun _ k => XS.bipush X0.here hx rfl (hb hby at_53) k) ?_
      show Gd p.tables e below _ (s₁.setTop (mkF m 55 #[.val (.int p1), .val (.int p2), .val (.long q3), .second, .val (.long q4), .second, .val (.int p5), .val (.int (own_d p2)), .val (.int ((4 : Int32) * (own_d p2))), .val (.long (own_pre (own_d p2) q3)), .second, .unset, .unset, .unset, .unset, .unset, .unset, .unset, .unset, .unset, .unset, .unset] [(.int (16 : Int32)), (.int (own_d p2))]))
      by_cases hc55 : (own_d p2) = (16 : Int32)
      · skip
        refine Gd.st (fun _ k => XS.icmpNo X0.here hx rfl (hb hby at_55) rfl (teq hc55).2 k) ?_
        show Gd p.tables e below _ (s₁.setTop (mkF m 58 #[.val (.int p1), .val (.int p2), .val (.long q3), .second, .val (.long q4), .second, .val (.int p5), .val (.int (own_d p2)), .val (.int ((4 : Int32) * (own_d p2))), .val (.long (own_pre (own_d p2) q3)), .second, .unset, .unset, .unset, .unset, .unset, .unset, .unset, .unset, .unset, .unset, .unset] []))
        refine Gd.st (fun _ k => XS.lconst X0.here hx rfl (hb hby at_58) k) ?_
        show Gd p.tables e below _ (s₁.setTop (mkF m 59 #[.val (.int p1), .val (.int p2), .val (.long q3), .second, .val (.long q4), .second, .val (.int p5), .val (.int (own_d p2)), .val (.int ((4 : Int32) * (own_d p2))), .val (.long (own_pre (own_d p2) q3)), .second, .unset, .unset, .unset, .unset, .unset, .unset, .unset, .unset, .unset, .unset, .unset] [(.long (0 : Int64))]))
        refine Gd.st (fun _ k => XS.lstore X0.here hx rfl (hb hby at_59) rfl (l' := #[.val (.int p1), .val (.int p2), .val (.long q3), .second, .val (.long q4), .second, .val (.int p5), .val (.int (own_d p2)), .val (.int ((4 : Int32) * (own_d p2))), .val (.long (own_pre (own_d p2) q3)), .second, .val (.long (0 : Int64)), .second, .unset, .unset, .unset, .unset, .unset, .unset, .unset, .unset, .unset]) rfl k) ?_
        show Gd p.tables e below _ (s₁.setTop (mkF m 61 #[.val (.int p1), .val (.int p2), .val (.long q3), .second, .val (.long q4), .second, .val (.int p5), .val (.int (own_d p2)), .val (.int ((4 : Int32) * (own_d p2))), .val (.long (own_pre (own_d p2) q3)), .second, .val (.long (0 : Int64)), .second, .unset, .unset, .unset, .unset, .unset, .unset, .unset, .unset, .unset] []))
        refine Gd.st (fun _ k => XS.goto X0.here hx rfl (pc0 := 61) (pc' := 75) rfl (hb hby at_61) (by decide) (by decide) k) ?_
        show Gd p.tables e below _ (s₁.setTop (mkF m 75 #[.val (.int p1), .val (.int p2), .val (.long q3), .second, .val (.long q4), .second, .val (.int p5), .val (.int (own_d p2)), .val (.int ((4 : Int32) * (own_d p2))), .val (.long (own_pre (own_d p2) q3)), .second, .val (.long (0 : Int64)), .second, .unset, .unset, .unset, .unset, .unset, .unset, .unset, .unset, .unset] []))
        rw [show (own_low (own_d p2)) = (0 : Int64) from (by first | (simp only [own_low, eq_false hc40, eq_true hc55, not_true_eq_false, not_false_eq_true, and_true, true_and, and_false, false_and, or_true, true_or, or_false, false_or, if_true, if_false]; done) | simp [own_low, eq_false hc40, eq_true hc55])] at J
        exact J
      · skip
        refine Gd.st (fun _ k => XS.icmpYes X0.here hx rfl (pc0 := 55) (pc' := 64) rfl (hb hby at_55) rfl (feq hc55).2 (by decide) (by decide) k) ?_
        show Gd p.tables e below _ (s₁.setTop (mkF m 64 #[.val (.int p1), .val (.int p2), .val (.long q3), .second, .val (.long q4), .second, .val (.int p5), .val (.int (own_d p2)), .val (.int ((4 : Int32) * (own_d p2))), .val (.long (own_pre (own_d p2) q3)), .second, .unset, .unset, .unset, .unset, .unset, .unset, .unset, .unset, .unset, .unset, .unset] []))
        refine Gd.st (fun _ k => XS.lconst X0.here hx rfl (hb hby at_64) k) ?_
        show Gd p.tables e below _ (s₁.setTop (mkF m 65 #[.val (.int p1), .val (.int p2), .val (.long q3), .second, .val (.long q4), .second, .val (.int p5), .val (.int (own_d p2)), .val (.int ((4 : Int32) * (own_d p2))), .val (.long (own_pre (own_d p2) q3)), .second, .unset, .unset, .unset, .unset, .unset, .unset, .unset, .unset, .unset, .unset, .unset] [(.long (1 : Int64))]))
        refine Gd.st (fun _ k => XS.bipush X0.here hx rfl (hb hby at_65) k) ?_
        show Gd p.tables e below _ (s₁.setTop (mkF m 67 #[.val (.int p1), .val (.int p2), .val (.long q3), .second, .val (.long q4), .second, .val (.int p5), .val (.int (own_d p2)), .val (.int ((4 : Int32) * (own_d p2))), .val (.long (own_pre (own_d p2) q3)), .second, .unset, .unset, .unset, .unset, .unset, .unset, .unset, .unset, .unset, .unset, .unset] [(.int (64 : Int32)), (.long (1 : Int64))]))
        refine Gd.st (fun _ k => XS.iload X0.here hx rfl (hb hby at_67) rfl k) ?_
        show Gd p.tables e below _ (s₁.setTop (mkF m 69 #[.val (.int p1), .val (.int p2), .val (.long q3), .second, .val (.long q4), .second, .val (.int p5), .val (.int (own_d p2)), .val (.int ((4 : Int32) * (own_d p2))), .val (.long (own_pre (own_d p2) q3)), .second, .unset, .unset, .unset, .unset, .unset, .unset, .unset, .unset, .unset, .unset, .unset] [(.int ((4 : Int32) * (own_d p2))), (.int (64 : Int32)), (.long (1 : Int64))]))
        refine Gd.st (fun _ k => XS.isub X0.here hx rfl (hb hby at_69) rfl k) ?_
        show Gd p.tables e below _ (s₁.setTop (mkF m 70 #[.val (.int p1), .val (.int p2), .val (.long q3), .second, .val (.long q4), .second, .val (.int p5), .val (.int (own_d p2)), .val (.int ((4 : Int32) * (own_d p2))), .val (.long (own_pre (own_d p2) q3)), .second, .unset, .unset, .unset, .unset, .unset, .unset, .unset, .unset, .unset, .unset, .unset] [(.int (own_s (own_d p2))), (.long (1 : Int64))]))
        refine Gd.st (fun _ k => XS.lshl X0.here hx rfl (hb hby at_70) rfl k) ?_
        show Gd p.tables e below _ (s₁.setTop (mkF m 71 #[.val (.int p1), .val (.int p2), .val (.long q3), .second, .val (.long q4), .second, .val (.int p5), .val (.int (own_d p2)), .val (.int ((4 : Int32) * (own_d p2))), .val (.long (own_pre (own_d p2) q3)), .second, .unset, .unset, .unset, .unset, .unset, .unset, .unset, .unset, .unset, .unset, .unset] [(.long ((1 : Int64) <<< ((own_s (own_d p2)) &&& 0x3f).toInt64))]))
        refine Gd.st (fun _ k => XS.lconst X0.here hx rfl (hb hby at_71) k) ?_
        show Gd p.tables e below _ (s₁.setTop (mkF m 72 #[.val (.int p1), .val (.int p2), .val (.long q3), .second, .val (.long q4), .second, .val (.int p5), .val (.int (own_d p2)), .val (.int ((4 : Int32) * (own_d p2))), .val (.long (own_pre (own_d p2) q3)), .second, .unset, .unset, .unset, .unset, .unset, .unset, .unset, .unset, .unset, .unset, .unset] [(.long (1 : Int64)), (.long ((1 : Int64) <<< ((own_s (own_d p2)) &&& 0x3f).toInt64))]))
        refine Gd.st (fun _ k => XS.lsub X0.here hx rfl (hb hby at_72) rfl k) ?_
        show Gd p.tables e below _ (s₁.setTop (mkF m 73 #[.val (.int p1), .val (.int p2), .val (.long q3), .second, .val (.long q4), .second, .val (.int p5), .val (.int (own_d p2)), .val (.int ((4 : Int32) * (own_d p2))), .val (.long (own_pre (own_d p2) q3)), .second, .unset, .unset, .unset, .unset, .unset, .unset, .unset, .unset, .unset, .unset, .unset] [(.long (((1 : Int64) <<< ((own_s (own_d p2)) &&& 0x3f).toInt64) - (1 : Int64)))]))
        refine Gd.st (fun _ k => XS.lstore X0.here hx rfl (hb hby at_73) rfl (l' := #[.val (.int p1), .val (.int p2), .val (.long q3), .second, .val (.long q4), .second, .val (.int p5), .val (.int (own_d p2)), .val (.int ((4 : Int32) * (own_d p2))), .val (.long (own_pre (own_d p2) q3)), .second, .val (.long (((1 : Int64) <<< ((own_s (own_d p2)) &&& 0x3f).toInt64) - (1 : Int64))), .second, .unset, .unset, .unset, .unset, .unset, .unset, .unset, .unset, .unset]) rfl k) ?_
        show Gd p.tables e below _ (s₁.setTop (mkF m 75 #[.val (.int p1), .val (.int p2), .val (.long q3), .second, .val (.long q4), .second, .val (.int p5), .val (.int (own_d p2)), .val (.int ((4 : Int32) * (own_d p2))), .val (.long (own_pre (own_d p2) q3)), .second, .val (.long (((1 : Int64) <<< ((own_s (own_d p2)) &&& 0x3f).toInt64) - (1 : Int64))), .second, .unset, .unset, .unset, .unset, .unset, .unset, .unset, .unset, .unset] []))
        rw [show (own_low (own_d p2)) = (((1 : Int64) <<< ((own_s (own_d p2)) &&& 0x3f).toInt64) - (1 : Int64)) from (by first | (simp only [own_low, eq_false hc40, eq_false hc55, not_true_eq_false, not_false_eq_true, and_true, true_and, and_false, false_and, or_true, true_or, or_false, false_or, if_true, if_false]; done) | simp [own_low, eq_false hc40, eq_false hc55])] at J
        exact J
  show Gd p.tables e below _ (s₁.setTop (mkF m 75 #[.val (.int p1), .val (.int p2), .val (.long q3), .second, .val (.long q4), .second, .val (.int p5), .val (.int (own_d p2)), .val (.int ((4 : Int32) * (own_d p2))), .val (.long (own_pre (own_d p2) q3)), .second, .val (.long (own_low (own_d p2))), .second, .unset, .unset, .unset, .unset, .unset, .unset, .unset, .unset, .unset] []))
  refine Gd.join (B := s₁.setTop (mkF m 96 #[.val (.int p1), .val (.int p2), .val (.long q3), .second, .val (.long q4), .second, .val (.int p5), .val (.int (own_d p2)), .val (.int ((4 : Int32) * (own_d p2))), .val (.long (own_pre (own_d p2) q3)), .second, .val (.long (own_low (own_d p2))), .second, .val (.long (own_fst (own_d p2) (own_pre (own_d p2) q3))), .second, .unset, .unset, .unset, .unset, .unset, .unset, .unset] [])) (fun J => ?_) ?_
  · skip
    refine Gd.st (fun _ k => XS.iload X0.here hx rfl (hb hby at_75) rfl k) ?_
    show Gd p.tables e below _ (s₁.setTop (mkF m 77 #[.val (.int p1), .val (.int p2), .val (.long q3), .second, .val (.long q4), .second, .val (.int p5), .val (.int (own_d p2)), .val (.int ((4 : Int32) * (own_d p2))), .val (.long (own_pre (own_d p2) q3)), .second, .val (.long (own_low (own_d p2))), .second, .unset, .unset, .unset, .unset, .unset, .unset, .unset, .unset, .unset] [(.int (own_d p2))]))
    by_cases hc77 : (own_d p2) = (0 : Int32)
    · skip
      refine Gd.st (fun _ k => XS.ifNo X0.here hx rfl (hb hby at_77) rfl ((if0 _ _).trans (teq hc77).2) k) ?_
      show Gd p.tables e below _ (s₁.setTop (mkF m 80 #[.val (.int p1), .val (.int p2), .val (.long q3), .second, .val (.long q4), .second, .val (.int p5), .val (.int (own_d p2)), .val (.int ((4 : Int32) * (own_d p2))), .val (.long (own_pre (own_d p2) q3)), .second, .val (.long (own_low (own_d p2))), .second, .unset, .unset, .unset, .unset, .unset, .unset, .unset, .unset, .unset] []))
      refine Gd.st (fun _ k => XS.lconst X0.here hx rfl (hb hby at_80) k) ?_
      show Gd p.tables e below _ (s₁.setTop (mkF m 81 #[.val (.int p1), .val (.int p2), .val (.long q3), .second, .val (.long q4), .second, .val (.int p5), .val (.int (own_d p2)), .val (.int ((4 : Int32) * (own_d p2))), .val (.long (own_pre (own_d p2) q3)), .second, .val (.long (own_low (own_d p2))), .second, .unset, .unset, .unset, .unset, .unset, .unset, .unset, .unset, .unset] [(.long (0 : Int64))]))
      refine Gd.st (fun _ k => XS.lstore X0.here hx rfl (hb hby at_81) rfl (l' := #[.val (.int p1), .val (.int p2), .val (.long q3), .second, .val (.long q4), .second, .val (.int p5), .val (.int (own_d p2)), .val (.int ((4 : Int32) * (own_d p2))), .val (.long (own_pre (own_d p2) q3)), .second, .val (.long (own_low (own_d p2))), .second, .val (.long (0 : Int64)), .second, .unset, .unset, .unset, .unset, .unset, .unset, .unset]) rfl k) ?_
      show Gd p.tables e below _ (s₁.setTop (mkF m 83 #[.val (.int p1), .val (.int p2), .val (.long q3), .second, .val (.long q4), .second, .val (.int p5), .val (.int (own_d p2)), .val (.int ((4 : Int32) * (own_d p2))), .val (.long (own_pre (own_d p2) q3)), .second, .val (.long (own_low (own_d p2))), .second, .val (.long (0 : Int64)), .second, .unset, .unset, .unset, .unset, .unset, .unset, .unset] []))
      refine Gd.st (fun _ k => XS.goto X0.here hx rfl (pc0 := 83) (pc' := 96) rfl (hb hby at_83) (by decide) (by decide) k) ?_
      show Gd p.tables e below _ (s₁.setTop (mkF m 96 #[.val (.int p1), .val (.int p2), .val (.long q3), .second, .val (.long q4), .second, .val (.int p5), .val (.int (own_d p2)), .val (.int ((4 : Int32) * (own_d p2))), .val (.long (own_pre (own_d p2) q3)), .second, .val (.long (own_low (own_d p2))), .second, .val (.long (0 : Int64)), .second, .unset, .unset, .unset, .unset, .unset, .unset, .unset] []))
      rw [show (own_fst (own_d p2) (own_pre (own_d p2) q3)) = (0 : Int64) from (by first | (simp only [own_fst, eq_true hc77, not_true_eq_false, not_false_eq_true, and_true, true_and, and_false, false_and, or_true, true_or, or_false, false_or, if_true, if_false]; done) | simp [own_fst, eq_true hc77])] at J
      exact J
    · skip
      refine Gd.st (fun _ k => XS.ifYes X0.here hx rfl (pc0 := 77) (pc' := 86) rfl (hb hby at_77) rfl ((if0 _ _).trans (feq hc77).2) (by decide) (by decide) k) ?_
      show Gd p.tables e below _ (s₁.setTop (mkF m 86 #[.val (.int p1), .val (.int p2), .val (.long q3), .second, .val (.long q4), .second, .val (.int p5), .val (.int (own_d p2)), .val (.int ((4 : Int32) * (own_d p2))), .val (.long (own_pre (own_d p2) q3)), .second, .val (.long (own_low (own_d p2))), .second, .unset, .unset, .unset, .unset, .unset, .unset, .unset, .unset, .unset] []))
      refine Gd.st (fun _ k => XS.lload X0.here hx rfl (hb hby at_86) rfl k) ?_
      show Gd p.tables e below _ (s₁.setTop (mkF m 88 #[.val (.int p1), .val (.int p2), .val (.long q3), .second, .val (.long q4), .second, .val (.int p5), .val (.int (own_d p2)), .val (.int ((4 : Int32) * (own_d p2))), .val (.long (own_pre (own_d p2) q3)), .second, .val (.long (own_low (own_d p2))), .second, .unset, .unset, .unset, .unset, .unset, .unset, .unset, .unset, .unset] [(.long (own_pre (own_d p2) q3))]))
      refine Gd.st (fun _ k => XS.bipush X0.here hx rfl (hb hby at_88) k) ?_
      show Gd p.tables e below _ (s₁.setTop (mkF m 90 #[.val (.int p1), .val (.int p2), .val (.long q3), .second, .val (.long q4), .second, .val (.int p5), .val (.int (own_d p2)), .val (.int ((4 : Int32) * (own_d p2))), .val (.long (own_pre (own_d p2) q3)), .second, .val (.long (own_low (own_d p2))), .second, .unset, .unset, .unset, .unset, .unset, .unset, .unset, .unset, .unset] [(.int (64 : Int32)), (.long (own_pre (own_d p2) q3))]))
      refine Gd.st (fun _ k => XS.iload X0.here hx rfl (hb hby at_90) rfl k) ?_
      show Gd p.tables e below _ (s₁.setTop (mkF m 92 #[.val (.int p1), .val (.int p2), .val (.long q3), .second, .val (.long q4), .second, .val (.int p5), .val (.int (own_d p2)), .val (.int ((4 : Int32) * (own_d p2))), .val (.long (own_pre (own_d p2) q3)), .second, .val (.long (own_low (own_d p2))), .second, .unset, .unset, .unset, .unset, .unset, .unset, .unset, .unset, .unset] [(.int ((4 : Int32) * (own_d p2))), (.int (64 : Int32)), (.long (own_pre (own_d p2) q3))]))
      refine Gd.st (fun _ k => XS.isub X0.here hx rfl (hb hby at_92) rfl k) ?_
      show Gd p.tables e below _ (s₁.setTop (mkF m 93 #[.val (.int p1), .val (.int p2), .val (.long q3), .second, .val (.long q4), .second, .val (.int p5), .val (.int (own_d p2)), .val (.int ((4 : Int32) * (own_d p2))), .val (.long (own_pre (own_d p2) q3)), .second, .val (.long (own_low (own_d p2))), .second, .unset, .unset, .unset, .unset, .unset, .unset, .unset, .unset, .unset] [(.int (own_s (own_d p2))), (.long (own_pre (own_d p2) q3))]))
      refine Gd.st (fun _ k => XS.lshl X0.here hx rfl (hb hby at_93) rfl k) ?_
      show Gd p.tables e below _ (s₁.setTop (mkF m 94 #[.val (.int p1), .val (.int p2), .val (.long q3), .second, .val (.long q4), .second, .val (.int p5), .val (.int (own_d p2)), .val (.int ((4 : Int32) * (own_d p2))), .val (.long (own_pre (own_d p2) q3)), .second, .val (.long (own_low (own_d p2))), .second, .unset, .unset, .unset, .unset, .unset, .unset, .unset, .unset, .unset] [(.long ((own_pre (own_d p2) q3) <<< ((own_s (own_d p2)) &&& 0x3f).toInt64))]))
      refine Gd.st (fun _ k => XS.lstore X0.here hx rfl (hb hby at_94) rfl (l' := #[.val (.int p1), .val (.int p2), .val (.long q3), .second, .val (.long q4), .second, .val (.int p5), .val (.int (own_d p2)), .val (.int ((4 : Int32) * (own_d p2))), .val (.long (own_pre (own_d p2) q3)), .second, .val (.long (own_low (own_d p2))), .second, .val (.long ((own_pre (own_d p2) q3) <<< ((own_s (own_d p2)) &&& 0x3f).toInt64)), .second, .unset, .unset, .unset, .unset, .unset, .unset, .unset]) rfl k) ?_
      show Gd p.tables e below _ (s₁.setTop (mkF m 96 #[.val (.int p1), .val (.int p2), .val (.long q3), .second, .val (.long q4), .second, .val (.int p5), .val (.int (own_d p2)), .val (.int ((4 : Int32) * (own_d p2))), .val (.long (own_pre (own_d p2) q3)), .second, .val (.long (own_low (own_d p2))), .second, .val (.long ((own_pre (own_d p2) q3) <<< ((own_s (own_d p2)) &&& 0x3f).toInt64)), .second, .unset, .unset, .unset, .unset, .unset, .unset, .unset] []))
      rw [show (own_fst (own_d p2) (own_pre (own_d p2) q3)) = ((own_pre (own_d p2) q3) <<< ((own_s (own_d p2)) &&& 0x3f).toInt64) from (by first | (simp only [own_fst, eq_false hc77, not_true_eq_false, not_false_eq_true, and_true, true_and, and_false, false_and, or_true, true_or, or_false, false_or, if_true, if_false]; done) | simp [own_fst, eq_false hc77])] at J
      exact J
  show Gd p.tables e below _ (s₁.setTop (mkF m 96 #[.val (.int p1), .val (.int p2), .val (.long q3), .second, .val (.long q4), .second, .val (.int p5), .val (.int (own_d p2)), .val (.int ((4 : Int32) * (own_d p2))), .val (.long (own_pre (own_d p2) q3)), .second, .val (.long (own_low (own_d p2))), .second, .val (.long (own_fst (own_d p2) (own_pre (own_d p2) q3))), .second, .unset, .unset, .unset, .unset, .unset, .unset, .unset] []))
  refine Gd.st (fun _ k => XS.lload X0.here hx rfl (hb hby at_96) rfl k) ?_
  show Gd p.tables e below _ (s₁.setTop (mkF m 98 #[.val (.int p1), .val (.int p2), .val (.long q3), .second, .val (.long q4), .second, .val (.int p5), .val (.int (own_d p2)), .val (.int ((4 : Int32) * (own_d p2))), .val (.long (own_pre (own_d p2) q3)), .second, .val (.long (own_low (own_d p2))), .second, .val (.long (own_fst (own_d p2) (own_pre (own_d p2) q3))), .second, .unset, .unset, .unset, .unset, .unset, .unset, .unset] [(.long (own_fst (own_d p2) (own_pre (own_d p2) q3)))]))
  refine Gd.st (fun _ k => XS.lload X0.here hx rfl (hb hby at_98) rfl k) ?_
  show Gd p.tables e below _ (s₁.setTop (mkF m 100 #[.val (.int p1), .val (.int p2), .val (.long q3), .second, .val (.long q4), .second, .val (.int p5), .val (.int (own_d p2)), .val (.int ((4 : Int32) * (own_d p2))), .val (.long (own_pre (own_d p2) q3)), .second, .val (.long (own_low (own_d p2))), .second, .val (.long (own_fst (own_d p2) (own_pre (own_d p2) q3))), .second, .unset, .unset, .unset, .unset, .unset, .unset, .unset] [(.long (own_low (own_d p2))), (.long (own_fst (own_d p2) (own_pre (own_d p2) q3)))]))
  refine Gd.st (fun _ k => XS.lor X0.here hx rfl (hb hby at_100) rfl k) ?_
  show Gd p.tables e below _ (s₁.setTop (mkF m 101 #[.val (.int p1), .val (.int p2), .val (.long q3), .second, .val (.long q4), .second, .val (.int p5), .val (.int (own_d p2)), .val (.int ((4 : Int32) * (own_d p2))), .val (.long (own_pre (own_d p2) q3)), .second, .val (.long (own_low (own_d p2))), .second, .val (.long (own_fst (own_d p2) (own_pre (own_d p2) q3))), .second, .unset, .unset, .unset, .unset, .unset, .unset, .unset] [(.long ((own_fst (own_d p2) (own_pre (own_d p2) q3)) ||| (own_low (own_d p2))))]))
  refine Gd.st (fun _ k => XS.lstore X0.here hx rfl (hb hby at_101) rfl (l' := #[.val (.int p1), .val (.int p2), .val (.long q3), .second, .val (.long q4), .second, .val (.int p5), .val (.int (own_d p2)), .val (.int ((4 : Int32) * (own_d p2))), .val (.long (own_pre (own_d p2) q3)), .second, .val (.long (own_low (own_d p2))), .second, .val (.long (own_fst (own_d p2) (own_pre (own_d p2) q3))), .second, .val (.long ((own_fst (own_d p2) (own_pre (own_d p2) q3)) ||| (own_low (own_d p2)))), .second, .unset, .unset, .unset, .unset, .unset]) rfl k) ?_
  show Gd p.tables e below _ (s₁.setTop (mkF m 103 #[.val (.int p1), .val (.int p2), .val (.long q3), .second, .val (.long q4), .second, .val (.int p5), .val (.int (own_d p2)), .val (.int ((4 : Int32) * (own_d p2))), .val (.long (own_pre (own_d p2) q3)), .second, .val (.long (own_low (own_d p2))), .second, .val (.long (own_fst (own_d p2) (own_pre (own_d p2) q3))), .second, .val (.long ((own_fst (own_d p2) (own_pre (own_d p2) q3)) ||| (own_low (own_d p2)))), .second, .unset, .unset, .unset, .unset, .unset] []))
  refine Gd.st (fun _ k => XS.iload X0.here hx rfl (hb hby at_103) rfl k) ?_
  show Gd p.tables e below _ (s₁.setTop (mkF m 105 #[.val (.int p1), .val (.int p2), .val (.long q3), .second, .val (.long q4), .second, .val (.int p5), .val (.int (own_d p2)), .val (.int ((4 : Int32) * (own_d p2))), .val (.long (own_pre (own_d p2) q3)), .second, .val (.long (own_low (own_d p2))), .second, .val (.long (own_fst (own_d p2) (own_pre (own_d p2) q3))), .second, .val (.long ((own_fst (own_d p2) (own_pre (own_d p2) q3)) ||| (own_low (own_d p2)))), .second, .unset, .unset, .unset, .unset, .unset] [(.int p5)]))
  refine Gd.st (fun _ k => X0.ldcInt hx hown (mvT hZ (hw _ (List.mem_of_getElem? (i := 0) rfl))) (g := (mkF m 105 #[.val (.int p1), .val (.int p2), .val (.long q3), .second, .val (.long q4), .second, .val (.int p5), .val (.int (own_d p2)), .val (.int ((4 : Int32) * (own_d p2))), .val (.long (own_pre (own_d p2) q3)), .second, .val (.long (own_low (own_d p2))), .second, .val (.long (own_fst (own_d p2) (own_pre (own_d p2) q3))), .second, .val (.long ((own_fst (own_d p2) (own_pre (own_d p2) q3)) ||| (own_low (own_d p2)))), .second, .unset, .unset, .unset, .unset, .unset] [(.int p5)])) rfl (hb hby at_105) _ k) ?_
  show Gd p.tables e below _ (s₁.setTop (mkF m 107 #[.val (.int p1), .val (.int p2), .val (.long q3), .second, .val (.long q4), .second, .val (.int p5), .val (.int (own_d p2)), .val (.int ((4 : Int32) * (own_d p2))), .val (.long (own_pre (own_d p2) q3)), .second, .val (.long (own_low (own_d p2))), .second, .val (.long (own_fst (own_d p2) (own_pre (own_d p2) q3))), .second, .val (.long ((own_fst (own_d p2) (own_pre (own_d p2) q3)) ||| (own_low (own_d p2)))), .second, .unset, .unset, .unset, .unset, .unset] [(.int (2147483647 : Int32)), (.int p5)]))
  refine Gd.st (fun _ k => XS.iand X0.here hx rfl (hb hby at_107) rfl k) ?_
  show Gd p.tables e below _ (s₁.setTop (mkF m 108 #[.val (.int p1), .val (.int p2), .val (.long q3), .second, .val (.long q4), .second, .val (.int p5), .val (.int (own_d p2)), .val (.int ((4 : Int32) * (own_d p2))), .val (.long (own_pre (own_d p2) q3)), .second, .val (.long (own_low (own_d p2))), .second, .val (.long (own_fst (own_d p2) (own_pre (own_d p2) q3))), .second, .val (.long ((own_fst (own_d p2) (own_pre (own_d p2) q3)) ||| (own_low (own_d p2)))), .second, .unset, .unset, .unset, .unset, .unset] [(.int (p5 &&& (2147483647 : Int32)))]))
  refine Gd.st (fun _ k => XS.bipush X0.here hx rfl (hb hby at_108) k) ?_
  show Gd p.tables e below _ (s₁.setTop (mkF m 110 #[.val (.int p1), .val (.int p2), .val (.long q3), .second, .val (.long q4), .second, .val (.int p5), .val (.int (own_d p2)), .val (.int ((4 : Int32) * (own_d p2))), .val (.long (own_pre (own_d p2) q3)), .second, .val (.long (own_low (own_d p2))), .second, .val (.long (own_fst (own_d p2) (own_pre (own_d p2) q3))), .second, .val (.long ((own_fst (own_d p2) (own_pre (own_d p2) q3)) ||| (own_low (own_d p2)))), .second, .unset, .unset, .unset, .unset, .unset] [(.int (6 : Int32)), (.int (p5 &&& (2147483647 : Int32)))]))
  refine Gd.st (fun _ k => XS.irem X0.here hx rfl (hb hby at_110) rfl (by decide) k) ?_
  show Gd p.tables e below _ (s₁.setTop (mkF m 111 #[.val (.int p1), .val (.int p2), .val (.long q3), .second, .val (.long q4), .second, .val (.int p5), .val (.int (own_d p2)), .val (.int ((4 : Int32) * (own_d p2))), .val (.long (own_pre (own_d p2) q3)), .second, .val (.long (own_low (own_d p2))), .second, .val (.long (own_fst (own_d p2) (own_pre (own_d p2) q3))), .second, .val (.long ((own_fst (own_d p2) (own_pre (own_d p2) q3)) ||| (own_low (own_d p2)))), .second, .unset, .unset, .unset, .unset, .unset] [(.int (own_sel p5))]))
  refine Gd.st (fun _ k => XS.istore X0.here hx rfl (hb hby at_111) rfl (l' := #[.val (.int p1), .val (.int p2), .val (.long q3), .second, .val (.long q4), .second, .val (.int p5), .val (.int (own_d p2)), .val (.int ((4 : Int32) * (own_d p2))), .val (.long (own_pre (own_d p2) q3)), .second, .val (.long (own_low (own_d p2))), .second, .val (.long (own_fst (own_d p2) (own_pre (own_d p2) q3))), .second, .val (.long ((own_fst (own_d p2) (own_pre (own_d p2) q3)) ||| (own_low (own_d p2)))), .second, .val (.int (own_sel p5)), .unset, .unset, .unset, .unset]) rfl k) ?_
  show Gd p.tables e below _ (s₁.setTop (mkF m 113 #[.val (.int p1), .val (.int p2), .val (.long q3), .second, .val (.long q4), .second, .val (.int p5), .val (.int (own_d p2)), .val (.int ((4 : Int32) * (own_d p2))), .val (.long (own_pre (own_d p2) q3)), .second, .val (.long (own_low (own_d p2))), .second, .val (.long (own_fst (own_d p2) (own_pre (own_d p2) q3))), .second, .val (.long ((own_fst (own_d p2) (own_pre (own_d p2) q3)) ||| (own_low (own_d p2)))), .second, .val (.int (own_sel p5)), .unset, .unset, .unset, .unset] []))
  refine Gd.join (B := s₁.setTop (mkF m 191 #[.val (.int p1), .val (.int p2), .val (.long q3), .second, .val (.long q4), .second, .val (.int p5), .val (.int (own_d p2)), .val (.int ((4 : Int32) * (own_d p2))), .val (.long (own_pre (own_d p2) q3)), .second, .val (.long (own_low (own_d p2))), .second, .val (.long (own_fst (own_d p2) (own_pre (own_d p2) q3))), .second, .val (.long ((own_fst (own_d p2) (own_pre (own_d p2) q3)) ||| (own_low (own_d p2)))), .second, .val (.int (own_sel p5)), .val (.long (own_pos (own_sel p5) q4 (own_fst (own_d p2) (own_pre (own_d p2) q3)) (own_low (own_d p2)) ((own_fst (own_d p2) (own_pre (own_d p2) q3)) ||| (own_low (own_d p2))))), .second, .unset, .unset] [])) (fun J => ?_) ?_
  · skip
    refine Gd.st (fun _ k => XS.iload X0.here hx rfl (hb hby at_113) rfl k) ?_
    show Gd p.tables e below _ (s₁.setTop (mkF m 115 #[.val (.int p1), .val (.int p2), .val (.long q3), .second, .val (.long q4), .second, .val (.int p5), .val (.int (own_d p2)), .val (.int ((4 : Int32) * (own_d p2))), .val (.long (own_pre (own_d p2) q3)), .second, .val (.long (own_low (own_d p2))), .second, .val (.long (own_fst (own_d p2) (own_pre (own_d p2) q3))), .second, .val (.long ((own_fst (own_d p2) (own_pre (own_d p2) q3)) ||| (own_low (own_d p2)))), .second, .val (.int (own_sel p5)), .unset, .unset, .unset, .unset] [(.int (own_sel p5))]))
    by_cases hc115 : (own_sel p5) = (0 : Int32)
    · skip
      refine Gd.st (fun _ k => XS.ifNo X0.here hx rfl (hb hby at_115) rfl ((if0 _ _).trans (teq hc115).2) k) ?_
      show Gd p.tables e below _ (s₁.setTop (mkF m 118 #[.val (.int p1), .val (.int p2), .val (.long q3), .second, .val (.long q4), .second, .val (.int p5), .val (.int (own_d p2)), .val (.int ((4 : Int32) * (own_d p2))), .val (.long (own_pre (own_d p2) q3)), .second, .val (.long (own_low (own_d p2))), .second, .val (.long (own_fst (own_d p2) (own_pre (own_d p2) q3))), .second, .val (.long ((own_fst (own_d p2) (own_pre (own_d p2) q3)) ||| (own_low (own_d p2)))), .second, .val (.int (own_sel p5)), .unset, .unset, .unset, .unset] []))
      refine Gd.st (fun _ k => XS.lload X0.here hx rfl (hb hby at_118) rfl k) ?_
      show Gd p.tables e below _ (s₁.setTop (mkF m 120 #[.val (.int p1), .val (.int p2), .val (.long q3), .second, .val (.long q4), .second, .val (.int p5), .val (.int (own_d p2)), .val (.int ((4 : Int32) * (own_d p2))), .val (.long (own_pre (own_d p2) q3)), .second, .val (.long (own_low (own_d p2))), .second, .val (.long (own_fst (own_d p2) (own_pre (own_d p2) q3))), .second, .val (.long ((own_fst (own_d p2) (own_pre (own_d p2) q3)) ||| (own_low (own_d p2)))), .second, .val (.int (own_sel p5)), .unset, .unset, .unset, .unset] [(.long q4)]))
      refine Gd.st (fun _ k => XS.lstore X0.here hx rfl (hb hby at_120) rfl (l' := #[.val (.int p1), .val (.int p2), .val (.long q3), .second, .val (.long q4), .second, .val (.int p5), .val (.int (own_d p2)), .val (.int ((4 : Int32) * (own_d p2))), .val (.long (own_pre (own_d p2) q3)), .second, .val (.long (own_low (own_d p2))), .second, .val (.long (own_fst (own_d p2) (own_pre (own_d p2) q3))), .second, .val (.long ((own_fst (own_d p2) (own_pre (own_d p2) q3)) ||| (own_low (own_d p2)))), .second, .val (.int (own_sel p5)), .val (.long q4), .second, .unset, .unset]) rfl k) ?_
      show Gd p.tables e below _ (s₁.setTop (mkF m 122 #[.val (.int p1), .val (.int p2), .val (.long q3), .second, .val (.long q4), .second, .val (.int p5), .val (.int (own_d p2)), .val (.int ((4 : Int32) * (own_d p2))), .val (.long (own_pre (own_d p2) q3)), .second, .val (.long (own_low (own_d p2))), .second, .val (.long (own_fst (own_d p2) (own_pre (own_d p2) q3))), .second, .val (.long ((own_fst (own_d p2) (own_pre (own_d p2) q3)) ||| (own_low (own_d p2)))), .second, .val (.int (own_sel p5)), .val (.long q4), .second, .unset, .unset] []))
      refine Gd.st (fun _ k => XS.goto X0.here hx rfl (pc0 := 122) (pc' := 191) rfl (hb hby at_122) (by decide) (by decide) k) ?_
      show Gd p.tables e below _ (s₁.setTop (mkF m 191 #[.val (.int p1), .val (.int p2), .val (.long q3), .second, .val (.long q4), .second, .val (.int p5), .val (.int (own_d p2)), .val (.int ((4 : Int32) * (own_d p2))), .val (.long (own_pre (own_d p2) q3)), .second, .val (.long (own_low (own_d p2))), .second, .val (.long (own_fst (own_d p2) (own_pre (own_d p2) q3))), .second, .val (.long ((own_fst (own_d p2) (own_pre (own_d p2) q3)) ||| (own_low (own_d p2)))), .second, .val (.int (own_sel p5)), .val (.long q4), .second, .unset, .unset] []))
      rw [show (own_pos (own_sel p5) q4 (own_fst (own_d p2) (own_pre (own_d p2) q3)) (own_low (own_d p2)) ((own_fst (own_d p2) (own_pre (own_d p2) q3)) ||| (own_low (own_d p2)))) = q4 from (by first | (simp only [own_pos, eq_true hc115, not_true_eq_false, not_false_eq_true, and_true, true_and, and_false, false_and, or_true, true_or, or_false, false_or, if_true, if_false]; done) | simp [own_pos, eq_true hc115])] at J
      exact J
    · skip
      refine Gd.st (fun _ k => XS.ifYes X0.here hx rfl (pc0 := 115) (pc' := 125) rfl (hb hby at_115) rfl ((if0 _ _).trans (feq hc115).2) (by decide) (by decide) k) ?_
      show Gd p.tables e below _ (s₁.setTop (mkF m 125 #[.val (.int p1), .val (.int p2), .val (.long q3), .second, .val (.long q4), .second, .val (.int p5), .val (.int (own_d p2)), .val (.int ((4 : Int32) * (own_d p2))), .val (.long (own_pre (own_d p2) q3)), .second, .val (.long (own_low (own_d p2))), .second, .val (.long (own_fst (own_d p2) (own_pre (own_d p2) q3))), .second, .val (.long ((own_fst (own_d p2) (own_pre (own_d p2) q3)) ||| (own_low (own_d p2)))), .second, .val (.int (own_sel p5)), .unset, .unset, .unset, .unset] []))
      refine Gd.st (fun _ k => XS.iload X0.here hx rfl (hb hby at_125) rfl k) ?_
      show Gd p.tables e below _ (s₁.setTop (mkF m 127 #[.val (.int p1), .val (.int p2), .val (.long q3), .second, .val (.long q4), .second, .val (.int p5), .val (.int (own_d p2)), .val (.int ((4 : Int32) * (own_d p2))), .val (.long (own_pre (own_d p2) q3)), .second, .val (.long (own_low (own_d p2))), .second, .val (.long (own_fst (own_d p2) (own_pre (own_d p2) q3))), .second, .val (.long ((own_fst (own_d p2) (own_pre (own_d p2) q3)) ||| (own_low (own_d p2)))), .second, .val (.int (own_sel p5)), .unset, .unset, .unset, .unset] [(.int (own_sel p5))]))
      refine Gd.st (fun _ k => XS.iconst X0.here hx rfl (hb hby at_127) k) ?_
      show Gd p.tables e below _ (s₁.setTop (mkF m 128 #[.val (.int p1), .val (.int p2), .val (.long q3), .second, .val (.long q4), .second, .val (.int p5), .val (.int (own_d p2)), .val (.int ((4 : Int32) * (own_d p2))), .val (.long (own_pre (own_d p2) q3)), .second, .val (.long (own_low (own_d p2))), .second, .val (.long (own_fst (own_d p2) (own_pre (own_d p2) q3))), .second, .val (.long ((own_fst (own_d p2) (own_pre (own_d p2) q3)) ||| (own_low (own_d p2)))), .second, .val (.int (own_sel p5)), .unset, .unset, .unset, .unset] [(.int (1 : Int32)), (.int (own_sel p5))]))
      by_cases hc128 : (own_sel p5) = (1 : Int32)
      · skip
        refine Gd.st (fun _ k => XS.icmpNo X0.here hx rfl (hb hby at_128) rfl (teq hc128).2 k) ?_
        show Gd p.tables e below _ (s₁.setTop (mkF m 131 #[.val (.int p1), .val (.int p2), .val (.long q3), .second, .val (.long q4), .second, .val (.int p5), .val (.int (own_d p2)), .val (.int ((4 : Int32) * (own_d p2))), .val (.long (own_pre (own_d p2) q3)), .second, .val (.long (own_low (own_d p2))), .second, .val (.long (own_fst (own_d p2) (own_pre (own_d p2) q3))), .second, .val (.long ((own_fst (own_d p2) (own_pre (own_d p2) q3)) ||| (own_low (own_d p2)))), .second, .val (.int (own_sel p5)), .unset, .unset, .unset, .unset] []))
        refine Gd.st (fun _ k => XS.lload X0.here hx rfl (hb hby at_131) rfl k) ?_
        show Gd p.tables e below _ (s₁.setTop (mkF m 133 #[.val (.int p1), .val (.int p2), .val (.long q3), .second, .val (.long q4), .second, .val (.int p5), .val (.int (own_d p2)), .val (.int ((4 : Int32) * (own_d p2))), .val (.long (own_pre (own_d p2) q3)), .second, .val (.long (own_low (own_d p2))), .second, .val (.long (own_fst (own_d p2) (own_pre (own_d p2) q3))), .second, .val (.long ((own_fst (own_d p2) (own_pre (own_d p2) q3)) ||| (own_low (own_d p2)))), .second, .val (.int (own_sel p5)), .unset, .unset, .unset, .unset] [(.long (own_fst (own_d p2) (own_pre (own_d p2) q3)))]))
        refine Gd.st (fun _ k => XS.lload X0.here hx rfl (hb hby at_133) rfl k) ?_
        show Gd p.tables e below _ (s₁.setTop (mkF m 135 #[.val (.int p1), .val (.int p2), .val (.long q3), .second, .val (.long q4), .second, .val (.int p5), .val (.int (own_d p2)), .val (.int ((4 : Int32) * (own_d p2))), .val (.long (own_pre (own_d p2) q3)), .second, .val (.long (own_low (own_d p2))), .second, .val (.long (own_fst (own_d p2) (own_pre (own_d p2) q3))), .second, .val (.long ((own_fst (own_d p2) (own_pre (own_d p2) q3)) ||| (own_low (own_d p2)))), .second, .val (.int (own_sel p5)), .unset, .unset, .unset, .unset] [(.long q4), (.long (own_fst (own_d p2) (own_pre (own_d p2) q3)))]))
        refine Gd.st (fun _ k => XS.lload X0.here hx rfl (hb hby at_135) rfl k) ?_
        show Gd p.tables e below _ (s₁.setTop (mkF m 137 #[.val (.int p1), .val (.int p2), .val (.long q3), .second, .val (.long q4), .second, .val (.int p5), .val (.int (own_d p2)), .val (.int ((4 : Int32) * (own_d p2))), .val (.long (own_pre (own_d p2) q3)), .second, .val (.long (own_low (own_d p2))), .second, .val (.long (own_fst (own_d p2) (own_pre (own_d p2) q3))), .second, .val (.long ((own_fst (own_d p2) (own_pre (own_d p2) q3)) ||| (own_low (own_d p2)))), .second, .val (.int (own_sel p5)), .unset, .unset, .unset, .unset] [(.long (own_low (own_d p2))), (.long q4), (.long (own_fst (own_d p2) (own_pre (own_d p2) q3)))]))
        refine Gd.st (fun _ k => XS.land X0.here hx rfl (hb hby at_137) rfl k) ?_
        show Gd p.tables e below _ (s₁.setTop (mkF m 138 #[.val (.int p1), .val (.int p2), .val (.long q3), .second, .val (.long q4), .second, .val (.int p5), .val (.int (own_d p2)), .val (.int ((4 : Int32) * (own_d p2))), .val (.long (own_pre (own_d p2) q3)), .second, .val (.long (own_low (own_d p2))), .second, .val (.long (own_fst (own_d p2) (own_pre (own_d p2) q3))), .second, .val (.long ((own_fst (own_d p2) (own_pre (own_d p2) q3)) ||| (own_low (own_d p2)))), .second, .val (.int (own_sel p5)), .unset, .unset, .unset, .unset] [(.long (q4 &&& (own_low (own_d p2)))), (.long (own_fst (own_d p2) (own_pre (own_d p2) q3)))]))
        refine Gd.st (fun _ k => XS.lor X0.here hx rfl (hb hby at_138) rfl k) ?_
        show Gd p.tables e below _ (s₁.setTop (mkF m 139 #[.val (.int p1), .val (.int p2), .val (.long q3), .second, .val (.long q4), .second, .val (.int p5), .val (.int (own_d p2)), .val (.int ((4 : Int32) * (own_d p2))), .val (.long (own_pre (own_d p2) q3)), .second, .val (.long (own_low (own_d p2))), .second, .val (.long (own_fst (own_d p2) (own_pre (own_d p2) q3))), .second, .val (.long ((own_fst (own_d p2) (own_pre (own_d p2) q3)) ||| (own_low (own_d p2)))), .second, .val (.int (own_sel p5)), .unset, .unset, .unset, .unset] [(.long ((own_fst (own_d p2) (own_pre (own_d p2) q3)) ||| (q4 &&& (own_low (own_d p2)))))]))
        refine Gd.st (fun _ k => XS.lstore X0.here hx rfl (hb hby at_139) rfl (l' := #[.val (.int p1), .val (.int p2), .val (.long q3), .second, .val (.long q4), .second, .val (.int p5), .val (.int (own_d p2)), .val (.int ((4 : Int32) * (own_d p2))), .val (.long (own_pre (own_d p2) q3)), .second, .val (.long (own_low (own_d p2))), .second, .val (.long (own_fst (own_d p2) (own_pre (own_d p2) q3))), .second, .val (.long ((own_fst (own_d p2) (own_pre (own_d p2) q3)) ||| (own_low (own_d p2)))), .second, .val (.int (own_sel p5)), .val (.long ((own_fst (own_d p2) (own_pre (own_d p2) q3)) ||| (q4 &&& (own_low (own_d p2))))), .second, .unset, .unset]) rfl k) ?_
        show Gd p.tables e below _ (s₁.setTop (mkF m 141 #[.val (.int p1), .val (.int p2), .val (.long q3), .second, .val (.long q4), .second, .val (.int p5), .val (.int (own_d p2)), .val (.int ((4 : Int32) * (own_d p2))), .val (.long (own_pre (own_d p2) q3)), .second, .val (.long (own_low (own_d p2))), .second, .val (.long (own_fst (own_d p2) (own_pre (own_d p2) q3))), .second, .val (.long ((own_fst (own_d p2) (own_pre (own_d p2) q3)) ||| (own_low (own_d p2)))), .second, .val (.int (own_sel p5)), .val (.long ((own_fst (own_d p2) (own_pre (own_d p2) q3)) ||| (q4 &&& (own_low (own_d p2))))), .second, .unset, .unset] []))
        refine Gd.st (fun _ k => XS.goto X0.here hx rfl (pc0 := 141) (pc' := 191) rfl (hb hby at_141) (by decide) (by decide) k) ?_
        show Gd p.tables e below _ (s₁.setTop (mkF m 191 #[.val (.int p1), .val (.int p2), .val (.long q3), .second, .val (.long q4), .second, .val (.int p5), .val (.int (own_d p2)), .val (.int ((4 : Int32) * (own_d p2))), .val (.long (own_pre (own_d p2) q3)), .second, .val (.long (own_low (own_d p2))), .second, .val (.long (own_fst (own_d p2) (own_pre (own_d p2) q3))), .second, .val (.long ((own_fst (own_d p2) (own_pre (own_d p2) q3)) ||| (own_low (own_d p2)))), .second, .val (.int (own_sel p5)), .val (.long ((own_fst (own_d p2) (own_pre (own_d p2) q3)) ||| (q4 &&& (own_low (own_d p2))))), .second, .unset, .unset] []))
        rw [show (own_pos (own_sel p5) q4 (own_fst (own_d p2) (own_pre (own_d p2) q3)) (own_low (own_d p2)) ((own_fst (own_d p2) (own_pre (own_d p2) q3)) ||| (own_low (own_d p2)))) = ((own_fst (own_d p2) (own_pre (own_d p2) q3)) ||| (q4 &&& (own_low (own_d p2)))) from (by first | (simp only [own_pos, eq_false hc115, eq_true hc128, not_true_eq_false, not_false_eq_true, and_true, true_and, and_false, false_and, or_true, true_or, or_false, false_or, if_true, if_false]; done) | simp [own_pos, eq_false hc115, eq_true hc128])] at J
        exact J
      · skip
        refine Gd.st (fun _ k => XS.icmpYes X0.here hx rfl (pc0 := 128) (pc' := 144) rfl (hb hby at_128) rfl (feq hc128).2 (by decide) (by decide) k) ?_
        show Gd p.tables e below _ (s₁.setTop (mkF m 144 #[.val (.int p1), .val (.int p2), .val (.long q3), .second, .val (.long q4), .second, .val (.int p5), .val (.int (own_d p2)), .val (.int ((4 : Int32) * (own_d p2))), .val (.long (own_pre (own_d p2) q3)), .second, .val (.long (own_low (own_d p2))), .second, .val (.long (own_fst (own_d p2) (own_pre (own_d p2) q3))), .second, .val (.long ((own_fst (own_d p2) (own_pre (own_d p2) q3)) ||| (own_low (own_d p2)))), .second, .val (.int (own_sel p5)), .unset, .unset, .unset, .unset] []))
        refine Gd.st (fun _ k => XS.iload X0.here hx rfl (hb hby at_144) rfl k) ?_
        show Gd p.tables e below _ (s₁.setTop (mkF m 146 #[.val (.int p1), .val (.int p2), .val (.long q3), .second, .val (.long q4), .second, .val (.int p5), .val (.int (own_d p2)), .val (.int ((4 : Int32) * (own_d p2))), .val (.long (own_pre (own_d p2) q3)), .second, .val (.long (own_low (own_d p2))), .second, .val (.long (own_fst (own_d p2) (own_pre (own_d p2) q3))), .second, .val (.long ((own_fst (own_d p2) (own_pre (own_d p2) q3)) ||| (own_low (own_d p2)))), .second, .val (.int (own_sel p5)), .unset, .unset, .unset, .unset] [(.int (own_sel p5))]))
        refine Gd.st (fun _ k => XS.iconst X0.here hx rfl (hb hby at_146) k) ?_
        show Gd p.tables e below _ (s₁.setTop (mkF m 147 #[.val (.int p1), .val (.int p2), .val (.long q3), .second, .val (.long q4), .second, .val (.int p5), .val (.int (own_d p2)), .val (.int ((4 : Int32) * (own_d p2))), .val (.long (own_pre (own_d p2) q3)), .second, .val (.long (own_low (own_d p2))), .second, .val (.long (own_fst (own_d p2) (own_pre (own_d p2) q3))), .second, .val (.long ((own_fst (own_d p2) (own_pre (own_d p2) q3)) ||| (own_low (own_d p2)))), .second, .val (.int (own_sel p5)), .unset, .unset, .unset, .unset] [(.int (2 : Int32)), (.int (own_sel p5))]))
        by_cases hc147 : (own_sel p5) = (2 : Int32)
        · skip
          refine Gd.st (fun _ k => XS.icmpNo X0.here hx rfl (hb hby at_147) rfl (teq hc147).2 k) ?_
          show Gd p.tables e below _ (s₁.setTop (mkF m 150 #[.val (.int p1), .val (.int p2), .val (.long q3), .second, .val (.long q4), .second, .val (.int p5), .val (.int (own_d p2)), .val (.int ((4 : Int32) * (own_d p2))), .val (.long (own_pre (own_d p2) q3)), .second, .val (.long (own_low (own_d p2))), .second, .val (.long (own_fst (own_d p2) (own_pre (own_d p2) q3))), .second, .val (.long ((own_fst (own_d p2) (own_pre (own_d p2) q3)) ||| (own_low (own_d p2)))), .second, .val (.int (own_sel p5)), .unset, .unset, .unset, .unset] []))
          refine Gd.st (fun _ k => XS.lload X0.here hx rfl (hb hby at_150) rfl k) ?_
          show Gd p.tables e below _ (s₁.setTop (mkF m 152 #[.val (.int p1), .val (.int p2), .val (.long q3), .second, .val (.long q4), .second, .val (.int p5), .val (.int (own_d p2)), .val (.int ((4 : Int32) * (own_d p2))), .val (.long (own_pre (own_d p2) q3)), .second, .val (.long (own_low (own_d p2))), .second, .val (.long (own_fst (own_d p2) (own_pre (own_d p2) q3))), .second, .val (.long ((own_fst (own_d p2) (own_pre (own_d p2) q3)) ||| (own_low (own_d p2)))), .second, .val (.int (own_sel p5)), .unset, .unset, .unset, .unset] [(.long (own_fst (own_d p2) (own_pre (own_d p2) q3)))]))
          refine Gd.st (fun _ k => XS.lstore X0.here hx rfl (hb hby at_152) rfl (l' := #[.val (.int p1), .val (.int p2), .val (.long q3), .second, .val (.long q4), .second, .val (.int p5), .val (.int (own_d p2)), .val (.int ((4 : Int32) * (own_d p2))), .val (.long (own_pre (own_d p2) q3)), .second, .val (.long (own_low (own_d p2))), .second, .val (.long (own_fst (own_d p2) (own_pre (own_d p2) q3))), .second, .val (.long ((own_fst (own_d p2) (own_pre (own_d p2) q3)) ||| (own_low (own_d p2)))), .second, .val (.int (own_sel p5)), .val (.long (own_fst (own_d p2) (own_pre (own_d p2) q3))), .second, .unset, .unset]) rfl k) ?_
          show Gd p.tables e below _ (s₁.setTop (mkF m 154 #[.val (.int p1), .val (.int p2), .val (.long q3), .second, .val (.long q4), .second, .val (.int p5), .val (.int (own_d p2)), .val (.int ((4 : Int32) * (own_d p2))), .val (.long (own_pre (own_d p2) q3)), .second, .val (.long (own_low (own_d p2))), .second, .val (.long (own_fst (own_d p2) (own_pre (own_d p2) q3))), .second, .val (.long ((own_fst (own_d p2) (own_pre (own_d p2) q3)) ||| (own_low (own_d p2)))), .second, .val (.int (own_sel p5)), .val (.long (own_fst (own_d p2) (own_pre (own_d p2) q3))), .second, .unset, .unset] []))
          refine Gd.st (fun _ k => XS.goto X0.here hx rfl (pc0 := 154) (pc' := 191) rfl (hb hby at_154) (by decide) (by decide) k) ?_
          show Gd p.tables e below _ (s₁.setTop (mkF m 191 #[.val (.int p1), .val (.int p2), .val (.long q3), .second, .val (.long q4), .second, .val (.int p5), .val (.int (own_d p2)), .val (.int ((4 : Int32) * (own_d p2))), .val (.long (own_pre (own_d p2) q3)), .second, .val (.long (own_low (own_d p2))), .second, .val (.long (own_fst (own_d p2) (own_pre (own_d p2) q3))), .second, .val (.long ((own_fst (own_d p2) (own_pre (own_d p2) q3)) ||| (own_low (own_d p2)))), .second, .val (.int (own_sel p5)), .val (.long (own_fst (own_d p2) (own_pre (own_d p2) q3))), .second, .unset, .unset] []))
          rw [show (own_pos (own_sel p5) q4 (own_fst (own_d p2) (own_pre (own_d p2) q3)) (own_low (own_d p2)) ((own_fst (own_d p2) (own_pre (own_d p2) q3)) ||| (own_low (own_d p2)))) = (own_fst (own_d p2) (own_pre (own_d p2) q3)) from (by first | (simp only [own_pos, eq_false hc115, eq_false hc128, eq_true hc147, not_true_eq_false, not_false_eq_true, and_true, true_and, and_false, false_and, or_true, true_or, or_false, false_or, if_true, if_false]; done) | simp [own_pos, eq_false hc115, eq_false hc128, eq_true hc147])] at J
          exact J
        · skip
          refine Gd.st (fun _ k => XS.icmpYes X0.here hx rfl (pc0 := 147) (pc' := 157) rfl (hb hby at_147) rfl (feq hc147).2 (by decide) (by decide) k) ?_
          show Gd p.tables e below _ (s₁.setTop (mkF m 157 #[.val (.int p1), .val (.int p2), .val (.long q3), .second, .val (.long q4), .second, .val (.int p5), .val (.int (own_d p2)), .val (.int ((4 : Int32) * (own_d p2))), .val (.long (own_pre (own_d p2) q3)), .second, .val (.long (own_low (own_d p2))), .second, .val (.long (own_fst (own_d p2) (own_pre (own_d p2) q3))), .second, .val (.long ((own_fst (own_d p2) (own_pre (own_d p2) q3)) ||| (own_low (own_d p2)))), .second, .val (.int (own_sel p5)), .unset, .unset, .unset, .unset] []))
          refine Gd.st (fun _ k => XS.iload X0.here hx rfl (hb hby at_157) rfl k) ?_
          show Gd p.tables e below _ (s₁.setTop (mkF m 159 #[.val (.int p1), .val (.int p2), .val (.long q3), .second, .val (.long q4), .second, .val (.int p5), .val (.int (own_d p2)), .val (.int ((4 : Int32) * (own_d p2))), .val (.long (own_pre (own_d p2) q3)), .second, .val (.long (own_low (own_d p2))), .second, .val (.long (own_fst (own_d p2) (own_pre (own_d p2) q3))), .second, .val (.long ((own_fst (own_d p2) (own_pre (own_d p2) q3)) ||| (own_low (own_d p2)))), .second, .val (.int (own_sel p5)), .unset, .unset, .unset, .unset] [(.int (own_sel p5))]))
          refine Gd.st (fun _ k => XS.iconst X0.here hx rfl (hb hby at_159) k) ?_
          show Gd p.tables e below _ (s₁.setTop (mkF m 160 #[.val (.int p1), .val (.int p2), .val (.long q3), .second, .val (.long q4), .second, .val (.int p5), .val (.int (own_d p2)), .val (.int ((4 : Int32) * (own_d p2))), .val (.long (own_pre (own_d p2) q3)), .second, .val (.long (own_low (own_d p2))), .second, .val (.long (own_fst (own_d p2) (own_pre (own_d p2) q3))), .second, .val (.long ((own_fst (own_d p2) (own_pre (own_d p2) q3)) ||| (own_low (own_d p2)))), .second, .val (.int (own_sel p5)), .unset, .unset, .unset, .unset] [(.int (3 : Int32)), (.int (own_sel p5))]))
          by_cases hc160 : (own_sel p5) = (3 : Int32)
          · skip
            refine Gd.st (fun _ k => XS.icmpNo X0.here hx rfl (hb hby at_160) rfl (teq hc160).2 k) ?_
            show Gd p.tables e below _ (s₁.setTop (mkF m 163 #[.val (.int p1), .val (.int p2), .val (.long q3), .second, .val (.long q4), .second, .val (.int p5), .val (.int (own_d p2)), .val (.int ((4 : Int32) * (own_d p2))), .val (.long (own_pre (own_d p2) q3)), .second, .val (.long (own_low (own_d p2))), .second, .val (.long (own_fst (own_d p2) (own_pre (own_d p2) q3))), .second, .val (.long ((own_fst (own_d p2) (own_pre (own_d p2) q3)) ||| (own_low (own_d p2)))), .second, .val (.int (own_sel p5)), .unset, .unset, .unset, .unset] []))
            refine Gd.st (fun _ k => XS.lload X0.here hx rfl (hb hby at_163) rfl k) ?_
            show Gd p.tables e below _ (s₁.setTop (mkF m 165 #[.val (.int p1), .val (.int p2), .val (.long q3), .second, .val (.long q4), .second, .val (.int p5), .val (.int (own_d p2)), .val (.int ((4 : Int32) * (own_d p2))), .val (.long (own_pre (own_d p2) q3)), .second, .val (.long (own_low (own_d p2))), .second, .val (.long (own_fst (own_d p2) (own_pre (own_d p2) q3))), .second, .val (.long ((own_fst (own_d p2) (own_pre (own_d p2) q3)) ||| (own_low (own_d p2)))), .second, .val (.int (own_sel p5)), .unset, .unset, .unset, .unset] [(.long ((own_fst (own_d p2) (own_pre (own_d p2) q3)) ||| (own_low (own_d p2))))]))
            refine Gd.st (fun _ k => XS.lstore X0.here hx rfl (hb hby at_165) rfl (l' := #[.val (.int p1), .val (.int p2), .val (.long q3), .second, .val (.long q4), .second, .val (.int p5), .val (.int (own_d p2)), .val (.int ((4 : Int32) * (own_d p2))), .val (.long (own_pre (own_d p2) q3)), .second, .val (.long (own_low (own_d p2))), .second, .val (.long (own_fst (own_d p2) (own_pre (own_d p2) q3))), .second, .val (.long ((own_fst (own_d p2) (own_pre (own_d p2) q3)) ||| (own_low (own_d p2)))), .second, .val (.int (own_sel p5)), .val (.long ((own_fst (own_d p2) (own_pre (own_d p2) q3)) ||| (own_low (own_d p2)))), .second, .unset, .unset]) rfl k) ?_
            show Gd p.tables e below _ (s₁.setTop (mkF m 167 #[.val (.int p1), .val (.int p2), .val (.long q3), .second, .val (.long q4), .second, .val (.int p5), .val (.int (own_d p2)), .val (.int ((4 : Int32) * (own_d p2))), .val (.long (own_pre (own_d p2) q3)), .second, .val (.long (own_low (own_d p2))), .second, .val (.long (own_fst (own_d p2) (own_pre (own_d p2) q3))), .second, .val (.long ((own_fst (own_d p2) (own_pre (own_d p2) q3)) ||| (own_low (own_d p2)))), .second, .val (.int (own_sel p5)), .val (.long ((own_fst (own_d p2) (own_pre (own_d p2) q3)) ||| (own_low (own_d p2)))), .second, .unset, .unset] []))
            refine Gd.st (fun _ k => XS.goto X0.here hx rfl (pc0 := 167) (pc' := 191) rfl (hb hby at_167) (by decide) (by decide) k) ?_
            show Gd p.tables e below _ (s₁.setTop (mkF m 191 #[.val (.int p1), .val (.int p2), .val (.long q3), .second, .val (.long q4), .second, .val (.int p5), .val (.int (own_d p2)), .val (.int ((4 : Int32) * (own_d p2))), .val (.long (own_pre (own_d p2) q3)), .second, .val (.long (own_low (own_d p2))), .second, .val (.long (own_fst (own_d p2) (own_pre (own_d p2) q3))), .second, .val (.long ((own_fst (own_d p2) (own_pre (own_d p2) q3)) ||| (own_low (own_d p2)))), .second, .val (.int (own_sel p5)), .val (.long ((own_fst (own_d p2) (own_pre (own_d p2) q3)) ||| (own_low (own_d p2)))), .second, .unset, .unset] []))
            rw [show (own_pos (own_sel p5) q4 (own_fst (own_d p2) (own_pre (own_d p2) q3)) (own_low (own_d p2)) ((own_fst (own_d p2) (own_pre (own_d p2) q3)) ||| (own_low (own_d p2)))) = ((own_fst (own_d p2) (own_pre (own_d p2) q3)) ||| (own_low (own_d p2))) from (by first | (simp only [own_pos, eq_false hc115, eq_false hc128, eq_false hc147, eq_true hc160, not_true_eq_false, not_false_eq_true, and_true, true_and, and_false, false_and, or_true, true_or, or_false, false_or, if_true, if_false]; done) | simp [own_pos, eq_false hc115, eq_false hc128, eq_false hc147, eq_true hc160])] at J
            exact J
          · skip
            refine Gd.st (fun _ k => XS.icmpYes X0.here hx rfl (pc0 := 160) (pc' := 170) rfl (hb hby at_160) rfl (feq hc160).2 (by decide) (by decide) k) ?_
            show Gd p.tables e below _ (s₁.setTop (mkF m 170 #[.val (.int p1), .val (.int p2), .val (.long q3), .second, .val (.long q4), .second, .val (.int p5), .val (.int (own_d p2)), .val (.int ((4 : Int32) * (own_d p2))), .val (.long (own_pre (own_d p2) q3)), .second, .val (.long (own_low (own_d p2))), .second, .val (.long (own_fst (own_d p2) (own_pre (own_d p2) q3))), .second, .val (.long ((own_fst (own_d p2) (own_pre (own_d p2) q3)) ||| (own_low (own_d p2)))), .second, .val (.int (own_sel p5)), .unset, .unset, .unset, .unset] []))
            refine Gd.st (fun _ k => XS.iload X0.here hx rfl (hb hby at_170) rfl k) ?_
            show Gd p.tables e below _ (s₁.setTop (mkF m 172 #[.val (.int p1), .val (.int p2), .val (.long q3), .second, .val (.long q4), .second, .val (.int p5), .val (.int (own_d p2)), .val (.int ((4 : Int32) * (own_d p2))), .val (.long (own_pre (own_d p2) q3)), .second, .val (.long (own_low (own_d p2))), .second, .val (.long (own_fst (own_d p2) (own_pre (own_d p2) q3))), .second, .val (.long ((own_fst (own_d p2) (own_pre (own_d p2) q3)) ||| (own_low (own_d p2)))), .second, .val (.int (own_sel p5)), .unset, .unset, .unset, .unset] [(.int (own_sel p5))]))
            refine Gd.st (fun _ k => XS.iconst X0.here hx rfl (hb hby at_172) k) ?_
            show Gd p.tables e below _ (s₁.setTop (mkF m 173 #[.val (.int p1), .val (.int p2), .val (.long q3), .second, .val (.long q4), .second, .val (.int p5), .val (.int (own_d p2)), .val (.int ((4 : Int32) * (own_d p2))), .val (.long (own_pre (own_d p2) q3)), .second, .val (.long (own_low (own_d p2))), .second, .val (.long (own_fst (own_d p2) (own_pre (own_d p2) q3))), .second, .val (.long ((own_fst (own_d p2) (own_pre (own_d p2) q3)) ||| (own_low (own_d p2)))), .second, .val (.int (own_sel p5)), .unset, .unset, .unset, .unset] [(.int (4 : Int32)), (.int (own_sel p5))]))
            by_cases hc173 : (own_sel p5) = (4 : Int32)
            · skip
              refine Gd.st (fun _ k => XS.icmpNo X0.here hx rfl (hb hby at_173) rfl (teq hc173).2 k) ?_
              show Gd p.tables e below _ (s₁.setTop (mkF m 176 #[.val (.int p1), .val (.int p2), .val (.long q3), .second, .val (.long q4), .second, .val (.int p5), .val (.int (own_d p2)), .val (.int ((4 : Int32) * (own_d p2))), .val (.long (own_pre (own_d p2) q3)), .second, .val (.long (own_low (own_d p2))), .second, .val (.long (own_fst (own_d p2) (own_pre (own_d p2) q3))), .second, .val (.long ((own_fst (own_d p2) (own_pre (own_d p2) q3)) ||| (own_low (own_d p2)))), .second, .val (.int (own_sel p5)), .unset, .unset, .unset, .unset] []))
              refine Gd.st (fun _ k => XS.lload X0.here hx rfl (hb hby at_176) rfl k) ?_
              show Gd p.tables e below _ (s₁.setTop (mkF m 178 #[.val (.int p1), .val (.int p2), .val (.long q3), .second, .val (.long q4), .second, .val (.int p5), .val (.int (own_d p2)), .val (.int ((4 : Int32) * (own_d p2))), .val (.long (own_pre (own_d p2) q3)), .second, .val (.long (own_low (own_d p2))), .second, .val (.long (own_fst (own_d p2) (own_pre (own_d p2) q3))), .second, .val (.long ((own_fst (own_d p2) (own_pre (own_d p2) q3)) ||| (own_low (own_d p2)))), .second, .val (.int (own_sel p5)), .unset, .unset, .unset, .unset] [(.long (own_fst (own_d p2) (own_pre (own_d p2) q3)))]))
              refine Gd.st (fun _ k => XS.lconst X0.here hx rfl (hb hby at_178) k) ?_
              show Gd p.tables e below _ (s₁.setTop (mkF m 179 #[.val (.int p1), .val (.int p2), .val (.long q3), .second, .val (.long q4), .second, .val (.int p5), .val (.int (own_d p2)), .val (.int ((4 : Int32) * (own_d p2))), .val (.long (own_pre (own_d p2) q3)), .second, .val (.long (own_low (own_d p2))), .second, .val (.long (own_fst (own_d p2) (own_pre (own_d p2) q3))), .second, .val (.long ((own_fst (own_d p2) (own_pre (own_d p2) q3)) ||| (own_low (own_d p2)))), .second, .val (.int (own_sel p5)), .unset, .unset, .unset, .unset] [(.long (1 : Int64)), (.long (own_fst (own_d p2) (own_pre (own_d p2) q3)))]))
              refine Gd.st (fun _ k => XS.lsub X0.here hx rfl (hb hby at_179) rfl k) ?_
              show Gd p.tables e below _ (s₁.setTop (mkF m 180 #[.val (.int p1), .val (.int p2), .val (.long q3), .second, .val (.long q4), .second, .val (.int p5), .val (.int (own_d p2)), .val (.int ((4 : Int32) * (own_d p2))), .val (.long (own_pre (own_d p2) q3)), .second, .val (.long (own_low (own_d p2))), .second, .val (.long (own_fst (own_d p2) (own_pre (own_d p2) q3))), .second, .val (.long ((own_fst (own_d p2) (own_pre (own_d p2) q3)) ||| (own_low (own_d p2)))), .second, .val (.int (own_sel p5)), .unset, .unset, .unset, .unset] [(.long ((own_fst (own_d p2) (own_pre (own_d p2) q3)) - (1 : Int64)))]))
              refine Gd.st (fun _ k => XS.lstore X0.here hx rfl (hb hby at_180) rfl (l' := #[.val (.int p1), .val (.int p2), .val (.long q3), .second, .val (.long q4), .second, .val (.int p5), .val (.int (own_d p2)), .val (.int ((4 : Int32) * (own_d p2))), .val (.long (own_pre (own_d p2) q3)), .second, .val (.long (own_low (own_d p2))), .second, .val (.long (own_fst (own_d p2) (own_pre (own_d p2) q3))), .second, .val (.long ((own_fst (own_d p2) (own_pre (own_d p2) q3)) ||| (own_low (own_d p2)))), .second, .val (.int (own_sel p5)), .val (.long ((own_fst (own_d p2) (own_pre (own_d p2) q3)) - (1 : Int64))), .second, .unset, .unset]) rfl k) ?_
              show Gd p.tables e below _ (s₁.setTop (mkF m 182 #[.val (.int p1), .val (.int p2), .val (.long q3), .second, .val (.long q4), .second, .val (.int p5), .val (.int (own_d p2)), .val (.int ((4 : Int32) * (own_d p2))), .val (.long (own_pre (own_d p2) q3)), .second, .val (.long (own_low (own_d p2))), .second, .val (.long (own_fst (own_d p2) (own_pre (own_d p2) q3))), .second, .val (.long ((own_fst (own_d p2) (own_pre (own_d p2) q3)) ||| (own_low (own_d p2)))), .second, .val (.int (own_sel p5)), .val (.long ((own_fst (own_d p2) (own_pre (own_d p2) q3)) - (1 : Int64))), .second, .unset, .unset] []))
              refine Gd.st (fun _ k => XS.goto X0.here hx rfl (pc0 := 182) (pc' := 191) rfl (hb hby at_182) (by decide) (by decide) k) ?_
              show Gd p.tables e below _ (s₁.setTop (mkF m 191 #[.val (.int p1), .val (.int p2), .val (.long q3), .second, .val (.long q4), .second, .val (.int p5), .val (.int (own_d p2)), .val (.int ((4 : Int32) * (own_d p2))), .val (.long (own_pre (own_d p2) q3)), .second, .val (.long (own_low (own_d p2))), .second, .val (.long (own_fst (own_d p2) (own_pre (own_d p2) q3))), .second, .val (.long ((own_fst (own_d p2) (own_pre (own_d p2) q3)) ||| (own_low (own_d p2)))), .second, .val (.int (own_sel p5)), .val (.long ((own_fst (own_d p2) (own_pre (own_d p2) q3)) - (1 : Int64))), .second, .unset, .unset] []))
              rw [show (own_pos (own_sel p5) q4 (own_fst (own_d p2) (own_pre (own_d p2) q3)) (own_low (own_d p2)) ((own_fst (own_d p2) (own_pre (own_d p2) q3)) ||| (own_low (own_d p2)))) = ((own_fst (own_d p2) (own_pre (own_d p2) q3)) - (1 : Int64)) from (by first | (simp only [own_pos, eq_false hc115, eq_false hc128, eq_false hc147, eq_false hc160, eq_true hc173, not_true_eq_false, not_false_eq_true, and_true, true_and, and_false, false_and, or_true, true_or, or_false, false_or, if_true, if_false]; done) | simp [own_pos, eq_false hc115, eq_false hc128, eq_false hc147, eq_false hc160, eq_true hc173])] at J
              exact J
            · skip
              refine Gd.st (fun _ k => XS.icmpYes X0.here hx rfl (pc0 := 173) (pc' := 185) rfl (hb hby at_173) rfl (feq hc173).2 (by decide) (by decide) k) ?_
              show Gd p.tables e below _ (s₁.setTop (mkF m 185 #[.val (.int p1), .val (.int p2), .val (.long q3), .second, .val (.long q4), .second, .val (.int p5), .val (.int (own_d p2)), .val (.int ((4 : Int32) * (own_d p2))), .val (.long (own_pre (own_d p2) q3)), .second, .val (.long (own_low (own_d p2))), .second, .val (.long (own_fst (own_d p2) (own_pre (own_d p2) q3))), .second, .val (.long ((own_fst (own_d p2) (own_pre (own_d p2) q3)) ||| (own_low (own_d p2)))), .second, .val (.int (own_sel p5)), .unset, .unset, .unset, .unset] []))
              refine Gd.st (fun _ k => XS.lload X0.here hx rfl (hb hby at_185) rfl k) ?_
              show Gd p.tables e below _ (s₁.setTop (mkF m 187 #[.val (.int p1), .val (.int p2), .val (.long q3), .second, .val (.long q4), .second, .val (.int p5), .val (.int (own_d p2)), .val (.int ((4 : Int32) * (own_d p2))), .val (.long (own_pre (own_d p2) q3)), .second, .val (.long (own_low (own_d p2))), .second, .val (.long (own_fst (own_d p2) (own_pre (own_d p2) q3))), .second, .val (.long ((own_fst (own_d p2) (own_pre (own_d p2) q3)) ||| (own_low (own_d p2)))), .second, .val (.int (own_sel p5)), .unset, .unset, .unset, .unset] [(.long ((own_fst (own_d p2) (own_pre (own_d p2) q3)) ||| (own_low (own_d p2))))]))
              refine Gd.st (fun _ k => XS.lconst X0.here hx rfl (hb hby at_187) k) ?_
              show Gd p.tables e below _ (s₁.setTop (mkF m 188 #[.val (.int p1), .val (.int p2), .val (.long q3), .second, .val (.long q4), .second, .val (.int p5), .val (.int (own_d p2)), .val (.int ((4 : Int32) * (own_d p2))), .val (.long (own_pre (own_d p2) q3)), .second, .val (.long (own_low (own_d p2))), .second, .val (.long (own_fst (own_d p2) (own_pre (own_d p2) q3))), .second, .val (.long ((own_fst (own_d p2) (own_pre (own_d p2) q3)) ||| (own_low (own_d p2)))), .second, .val (.int (own_sel p5)), .unset, .unset, .unset, .unset] [(.long (1 : Int64)), (.long ((own_fst (own_d p2) (own_pre (own_d p2) q3)) ||| (own_low (own_d p2))))]))
              refine Gd.st (fun _ k => XS.ladd X0.here hx rfl (hb hby at_188) rfl k) ?_
              show Gd p.tables e below _ (s₁.setTop (mkF m 189 #[.val (.int p1), .val (.int p2), .val (.long q3), .second, .val (.long q4), .second, .val (.int p5), .val (.int (own_d p2)), .val (.int ((4 : Int32) * (own_d p2))), .val (.long (own_pre (own_d p2) q3)), .second, .val (.long (own_low (own_d p2))), .second, .val (.long (own_fst (own_d p2) (own_pre (own_d p2) q3))), .second, .val (.long ((own_fst (own_d p2) (own_pre (own_d p2) q3)) ||| (own_low (own_d p2)))), .second, .val (.int (own_sel p5)), .unset, .unset, .unset, .unset] [(.long (((own_fst (own_d p2) (own_pre (own_d p2) q3)) ||| (own_low (own_d p2))) + (1 : Int64)))]))
              refine Gd.st (fun _ k => XS.lstore X0.here hx rfl (hb hby at_189) rfl (l' := #[.val (.int p1), .val (.int p2), .val (.long q3), .second, .val (.long q4), .second, .val (.int p5), .val (.int (own_d p2)), .val (.int ((4 : Int32) * (own_d p2))), .val (.long (own_pre (own_d p2) q3)), .second, .val (.long (own_low (own_d p2))), .second, .val (.long (own_fst (own_d p2) (own_pre (own_d p2) q3))), .second, .val (.long ((own_fst (own_d p2) (own_pre (own_d p2) q3)) ||| (own_low (own_d p2)))), .second, .val (.int (own_sel p5)), .val (.long (((own_fst (own_d p2) (own_pre (own_d p2) q3)) ||| (own_low (own_d p2))) + (1 : Int64))), .second, .unset, .unset]) rfl k) ?_
              show Gd p.tables e below _ (s₁.setTop (mkF m 191 #[.val (.int p1), .val (.int p2), .val (.long q3), .second, .val (.long q4), .second, .val (.int p5), .val (.int (own_d p2)), .val (.int ((4 : Int32) * (own_d p2))), .val (.long (own_pre (own_d p2) q3)), .second, .val (.long (own_low (own_d p2))), .second, .val (.long (own_fst (own_d p2) (own_pre (own_d p2) q3))), .second, .val (.long ((own_fst (own_d p2) (own_pre (own_d p2) q3)) ||| (own_low (own_d p2)))), .second, .val (.int (own_sel p5)), .val (.long (((own_fst (own_d p2) (own_pre (own_d p2) q3)) ||| (own_low (own_d p2))) + (1 : Int64))), .second, .unset, .unset] []))
              rw [show (own_pos (own_sel p5) q4 (own_fst (own_d p2) (own_pre (own_d p2) q3)) (own_low (own_d p2)) ((own_fst (own_d p2) (own_pre (own_d p2) q3)) ||| (own_low (own_d p2)))) = (((own_fst (own_d p2) (own_pre (own_d p2) q3)) ||| (own_low (own_d p2))) + (1 : Int64)) from (by first | (simp only [own_pos, eq_false hc115, eq_false hc128, eq_false hc147, eq_false hc160, eq_false hc173, not_true_eq_false, not_false_eq_true, and_true, true_and, and_false, false_and, or_true, true_or, or_false, false_or, if_true, if_false]; done) | simp [own_pos, eq_false hc115, eq_false hc128, eq_false hc147, eq_false hc160, eq_false hc173])] at J
              exact J
  show Gd p.tables e below _ (s₁.setTop (mkF m 191 #[.val (.int p1), .val (.int p2), .val (.long q3), .second, .val (.long q4), .second, .val (.int p5), .val (.int (own_d p2)), .val (.int ((4 : Int32) * (own_d p2))), .val (.long (own_pre (own_d p2) q3)), .second, .val (.long (own_low (own_d p2))), .second, .val (.long (own_fst (own_d p2) (own_pre (own_d p2) q3))), .second, .val (.long ((own_fst (own_d p2) (own_pre (own_d p2) q3)) ||| (own_low (own_d p2)))), .second, .val (.int (own_sel p5)), .val (.long (own_pos (own_sel p5) q4 (own_fst (own_d p2) (own_pre (own_d p2) q3)) (own_low (own_d p2)) ((own_fst (own_d p2) (own_pre (own_d p2) q3)) ||| (own_low (own_d p2))))), .second, .unset, .unset] []))
  refine Gd.st (fun _ k => XS.lload X0.here hx rfl (hb hby at_191) rfl k) ?_
  show Gd p.tables e below _ (s₁.setTop (mkF m 193 #[.val (.int p1), .val (.int p2), .val (.long q3), .second, .val (.long q4), .second, .val (.int p5), .val (.int (own_d p2)), .val (.int ((4 : Int32) * (own_d p2))), .val (.long (own_pre (own_d p2) q3)), .second, .val (.long (own_low (own_d p2))), .second, .val (.long (own_fst (own_d p2) (own_pre (own_d p2) q3))), .second, .val (.long ((own_fst (own_d p2) (own_pre (own_d p2) q3)) ||| (own_low (own_d p2)))), .second, .val (.int (own_sel p5)), .val (.long (own_pos (own_sel p5) q4 (own_fst (own_d p2) (own_pre (own_d p2) q3)) (own_low (own_d p2)) ((own_fst (own_d p2) (own_pre (own_d p2) q3)) ||| (own_low (own_d p2))))), .second, .unset, .unset] [(.long (own_fst (own_d p2) (own_pre (own_d p2) q3)))]))
  refine Gd.st (fun _ k => XS.lload X0.here hx rfl (hb hby at_193) rfl k) ?_
  show Gd p.tables e below _ (s₁.setTop (mkF m 195 #[.val (.int p1), .val (.int p2), .val (.long q3), .second, .val (.long q4), .second, .val (.int p5), .val (.int (own_d p2)), .val (.int ((4 : Int32) * (own_d p2))), .val (.long (own_pre (own_d p2) q3)), .second, .val (.long (own_low (own_d p2))), .second, .val (.long (own_fst (own_d p2) (own_pre (own_d p2) q3))), .second, .val (.long ((own_fst (own_d p2) (own_pre (own_d p2) q3)) ||| (own_low (own_d p2)))), .second, .val (.int (own_sel p5)), .val (.long (own_pos (own_sel p5) q4 (own_fst (own_d p2) (own_pre (own_d p2) q3)) (own_low (own_d p2)) ((own_fst (own_d p2) (own_pre (own_d p2) q3)) ||| (own_low (own_d p2))))), .second, .unset, .unset] [(.long (own_pos (own_sel p5) q4 (own_fst (own_d p2) (own_pre (own_d p2) q3)) (own_low (own_d p2)) ((own_fst (own_d p2) (own_pre (own_d p2) q3)) ||| (own_low (own_d p2))))), (.long (own_fst (own_d p2) (own_pre (own_d p2) q3)))]))
  obtain ⟨_, _, ⟨T1, L1, k1, n1⟩, -, X1, ⟨Lc1, hQ1, l1, y1, z1⟩, st1⟩ := Jvm.LawKit.callS X0 hx (y := (⟨"com/example/tattle/tattle/antientropy/HashTreesCoversPinLaw", "unsignedLessOrEqual", "(JJ)Z"⟩ : MethodName)) hown (mvT hZ (hw _ (List.mem_of_getElem? (i := 1) rfl))) (mvT hZ (hw _ (List.mem_of_getElem? (i := 2) rfl))) (mvT hZ (hw _ (List.mem_of_getElem? (i := 3) rfl))) (mvT hZ (hw _ (List.mem_of_getElem? (i := 4) rfl))) (by decide) (backOf (W := 0) (rm1 l Z a0 hw [] (own_fst (own_d p2) (own_pre (own_d p2) q3)) (own_pos (own_sel p5) q4 (own_fst (own_d p2) (own_pre (own_d p2) q3)) (own_low (own_d p2)) ((own_fst (own_d p2) (own_pre (own_d p2) q3)) ||| (own_low (own_d p2)))) h0 n0 Z0 ) hZ (hw _ (List.mem_of_getElem? (i := 4) rfl)) (hw _ (List.mem_of_getElem? (i := 3) rfl)) (by decide) (by decide)) (g := (mkF m 195 #[.val (.int p1), .val (.int p2), .val (.long q3), .second, .val (.long q4), .second, .val (.int p5), .val (.int (own_d p2)), .val (.int ((4 : Int32) * (own_d p2))), .val (.long (own_pre (own_d p2) q3)), .second, .val (.long (own_low (own_d p2))), .second, .val (.long (own_fst (own_d p2) (own_pre (own_d p2) q3))), .second, .val (.long ((own_fst (own_d p2) (own_pre (own_d p2) q3)) ||| (own_low (own_d p2)))), .second, .val (.int (own_sel p5)), .val (.long (own_pos (own_sel p5) q4 (own_fst (own_d p2) (own_pre (own_d p2) q3)) (own_low (own_d p2)) ((own_fst (own_d p2) (own_pre (own_d p2) q3)) ||| (own_low (own_d p2))))), .second, .unset, .unset] [(.long (own_pos (own_sel p5) q4 (own_fst (own_d p2) (own_pre (own_d p2) q3)) (own_low (own_d p2)) ((own_fst (own_d p2) (own_pre (own_d p2) q3)) ||| (own_low (own_d p2))))), (.long (own_fst (own_d p2) (own_pre (own_d p2) q3)))])) rfl (by rw [hml]; rfl) (argsL := [(.long (own_fst (own_d p2) (own_pre (own_d p2) q3))), (.long (own_pos (own_sel p5) q4 (own_fst (own_d p2) (own_pre (own_d p2) q3)) (own_low (own_d p2)) ((own_fst (own_d p2) (own_pre (own_d p2) q3)) ||| (own_low (own_d p2)))))]) (rest := []) (lenOf pd__JJ_Z_5 rfl) rfl (by show 2 * 0 + _ ≤ _; exact Nat.le_of_eq rfl) (hb hby at_195) (fun _ _ => ⟨rfl, e0, (by decide : 0 + 0 ≤ _), (by decide : 0 + 0 ≤ _)⟩)
  dsimp only [Pt.U, Pt.locs, Pt.cells, Pt.slots] at X1 l1 y1 z1 st1 hQ1
  simp only [Nat.add_zero, Nat.zero_add, Nat.reduceAdd] at y1 z1
  subst y1 z1
  obtain ⟨rfl, N1q, eh1⟩ := hQ1
  have N1 : Fr n0 L1 := by rw [l1]; exact Fr.app N0 N1q
  clear l1
  refine Gd.st st1 ?_
  have e1 : T1.heap = h0 := eh1
  show Gd p.tables e below _ (T1.setTop (mkF m 198 #[.val (.int p1), .val (.int p2), .val (.long q3), .second, .val (.long q4), .second, .val (.int p5), .val (.int (own_d p2)), .val (.int ((4 : Int32) * (own_d p2))), .val (.long (own_pre (own_d p2) q3)), .second, .val (.long (own_low (own_d p2))), .second, .val (.long (own_fst (own_d p2) (own_pre (own_d p2) q3))), .second, .val (.long ((own_fst (own_d p2) (own_pre (own_d p2) q3)) ||| (own_low (own_d p2)))), .second, .val (.int (own_sel p5)), .val (.long (own_pos (own_sel p5) q4 (own_fst (own_d p2) (own_pre (own_d p2) q3)) (own_low (own_d p2)) ((own_fst (own_d p2) (own_pre (own_d p2) q3)) ||| (own_low (own_d p2))))), .second, .unset, .unset] [(.int (own_ule (own_fst (own_d p2) (own_pre (own_d p2) q3)) (own_pos (own_sel p5) q4 (own_fst (own_d p2) (own_pre (own_d p2) q3)) (own_low (own_d p2)) ((own_fst (own_d p2) (own_pre (own_d p2) q3)) ||| (own_low (own_d p2))))))]))
  by_cases hc198 : (own_ule (own_fst (own_d p2) (own_pre (own_d p2) q3)) (own_pos (own_sel p5) q4 (own_fst (own_d p2) (own_pre (own_d p2) q3)) (own_low (own_d p2)) ((own_fst (own_d p2) (own_pre (own_d p2) q3)) ||| (own_low (own_d p2))))) = (0 : Int32)
  · skip
    refine Gd.st (fun _ k => XS.ifYes X1.here hx rfl (pc0 := 198) (pc' := 215) rfl (hb hby at_198) rfl ((if0 _ _).trans (teq hc198).1) (by decide) (by decide) k) ?_
    show Gd p.tables e below _ (T1.setTop (mkF m 215 #[.val (.int p1), .val (.int p2), .val (.long q3), .second, .val (.long q4), .second, .val (.int p5), .val (.int (own_d p2)), .val (.int ((4 : Int32) * (own_d p2))), .val (.long (own_pre (own_d p2) q3)), .second, .val (.long (own_low (own_d p2))), .second, .val (.long (own_fst (own_d p2) (own_pre (own_d p2) q3))), .second, .val (.long ((own_fst (own_d p2) (own_pre (own_d p2) q3)) ||| (own_low (own_d p2)))), .second, .val (.int (own_sel p5)), .val (.long (own_pos (own_sel p5) q4 (own_fst (own_d p2) (own_pre (own_d p2) q3)) (own_low (own_d p2)) ((own_fst (own_d p2) (own_pre (own_d p2) q3)) ||| (own_low (own_d p2))))), .second, .unset, .unset] []))
    refine Gd.st (fun _ k => XS.iconst X1.here hx rfl (hb hby at_215) k) ?_
    show Gd p.tables e below _ (T1.setTop (mkF m 216 #[.val (.int p1), .val (.int p2), .val (.long q3), .second, .val (.long q4), .second, .val (.int p5), .val (.int (own_d p2)), .val (.int ((4 : Int32) * (own_d p2))), .val (.long (own_pre (own_d p2) q3)), .second, .val (.long (own_low (own_d p2))), .second, .val (.long (own_fst (own_d p2) (own_pre (own_d p2) q3))), .second, .val (.long ((own_fst (own_d p2) (own_pre (own_d p2) q3)) ||| (own_low (own_d p2)))), .second, .val (.int (own_sel p5)), .val (.long (own_pos (own_sel p5) q4 (own_fst (own_d p2) (own_pre (own_d p2) q3)) (own_low (own_d p2)) ((own_fst (own_d p2) (own_pre (own_d p2) q3)) ||| (own_low (own_d p2))))), .second, .unset, .unset] [(.int (0 : Int32))]))
    refine Gd.st (fun _ k => XS.istore X1.here hx rfl (hb hby at_216) rfl (l' := #[.val (.int p1), .val (.int p2), .val (.long q3), .second, .val (.long q4), .second, .val (.int p5), .val (.int (own_d p2)), .val (.int ((4 : Int32) * (own_d p2))), .val (.long (own_pre (own_d p2) q3)), .second, .val (.long (own_low (own_d p2))), .second, .val (.long (own_fst (own_d p2) (own_pre (own_d p2) q3))), .second, .val (.long ((own_fst (own_d p2) (own_pre (own_d p2) q3)) ||| (own_low (own_d p2)))), .second, .val (.int (own_sel p5)), .val (.long (own_pos (own_sel p5) q4 (own_fst (own_d p2) (own_pre (own_d p2) q3)) (own_low (own_d p2)) ((own_fst (own_d p2) (own_pre (own_d p2) q3)) ||| (own_low (own_d p2))))), .second, .val (.int (0 : Int32)), .unset]) rfl k) ?_
    show Gd p.tables e below _ (T1.setTop (mkF m 218 #[.val (.int p1), .val (.int p2), .val (.long q3), .second, .val (.long q4), .second, .val (.int p5), .val (.int (own_d p2)), .val (.int ((4 : Int32) * (own_d p2))), .val (.long (own_pre (own_d p2) q3)), .second, .val (.long (own_low (own_d p2))), .second, .val (.long (own_fst (own_d p2) (own_pre (own_d p2) q3))), .second, .val (.long ((own_fst (own_d p2) (own_pre (own_d p2) q3)) ||| (own_low (own_d p2)))), .second, .val (.int (own_sel p5)), .val (.long (own_pos (own_sel p5) q4 (own_fst (own_d p2) (own_pre (own_d p2) q3)) (own_low (own_d p2)) ((own_fst (own_d p2) (own_pre (own_d p2) q3)) ||| (own_low (own_d p2))))), .second, .val (.int (0 : Int32)), .unset] []))
    obtain ⟨T2, h2, X2, e2, E2, A2, D2, -, st2⟩ := newO X1 hx hZ hown (hw _ (List.mem_of_getElem? (i := 6) rfl)) (hw _ (List.mem_of_getElem? (i := 7) rfl)) (hw _ (List.mem_of_getElem? (i := 8) rfl)) e1 (g := (mkF m 218 #[.val (.int p1), .val (.int p2), .val (.long q3), .second, .val (.long q4), .second, .val (.int p5), .val (.int (own_d p2)), .val (.int ((4 : Int32) * (own_d p2))), .val (.long (own_pre (own_d p2) q3)), .second, .val (.long (own_low (own_d p2))), .second, .val (.long (own_fst (own_d p2) (own_pre (own_d p2) q3))), .second, .val (.long ((own_fst (own_d p2) (own_pre (own_d p2) q3)) ||| (own_low (own_d p2)))), .second, .val (.int (own_sel p5)), .val (.long (own_pos (own_sel p5) q4 (own_fst (own_d p2) (own_pre (own_d p2) q3)) (own_low (own_d p2)) ((own_fst (own_d p2) (own_pre (own_d p2) q3)) ||| (own_low (own_d p2))))), .second, .val (.int (0 : Int32)), .unset] [])) rfl (hb hby at_218) (by decide) (by decide)
    obtain ⟨b2, g2⟩ : ∃ z, z = h0.size := ⟨_, rfl⟩
    rw [← g2] at A2 D2 st2
    refine Gd.st st2 ?_
    have g_b2 : n0 ≤ b2 := Nat.le_trans Z0 (Nat.le_of_eq g2.symm)
    have Z3 : n0 ≤ h2.size := Nat.le_trans Z0 E2.1
    have F_partition_b2 : Fld Z h2 b2 "com/example/tattle/tattle/antientropy/HashTrees$Node" "partition" "I" (.int (0 : Int32)) := D2 (Or.inr (hw _ (List.mem_of_getElem? (i := 21) rfl))) (ty := .int) (by decide)
    have F_depth_b2 : Fld Z h2 b2 "com/example/tattle/tattle/antientropy/HashTrees$Node" "depth" "I" (.int (0 : Int32)) := D2 (Or.inr (hw _ (List.mem_of_getElem? (i := 23) rfl))) (ty := .int) (by decide)
    have F_prefix_b2 : Fld Z h2 b2 "com/example/tattle/tattle/antientropy/HashTrees$Node" "prefix" "J" (.long (0 : Int64)) := D2 (Or.inr (hw _ (List.mem_of_getElem? (i := 25) rfl))) (ty := .long) (by decide)
    show Gd p.tables e below _ (T2.setTop (mkF m 221 #[.val (.int p1), .val (.int p2), .val (.long q3), .second, .val (.long q4), .second, .val (.int p5), .val (.int (own_d p2)), .val (.int ((4 : Int32) * (own_d p2))), .val (.long (own_pre (own_d p2) q3)), .second, .val (.long (own_low (own_d p2))), .second, .val (.long (own_fst (own_d p2) (own_pre (own_d p2) q3))), .second, .val (.long ((own_fst (own_d p2) (own_pre (own_d p2) q3)) ||| (own_low (own_d p2)))), .second, .val (.int (own_sel p5)), .val (.long (own_pos (own_sel p5) q4 (own_fst (own_d p2) (own_pre (own_d p2) q3)) (own_low (own_d p2)) ((own_fst (own_d p2) (own_pre (own_d p2) q3)) ||| (own_low (own_d p2))))), .second, .val (.int (0 : Int32)), .unset] [(.ref b2)]))
    refine Gd.st (fun _ k => XS.dup X2.here hx rfl (hb hby at_221) rfl rfl k) ?_
    show Gd p.tables e below _ (T2.setTop (mkF m 222 #[.val (.int p1), .val (.int p2), .val (.long q3), .second, .val (.long q4), .second, .val (.int p5), .val (.int (own_d p2)), .val (.int ((4 : Int32) * (own_d p2))), .val (.long (own_pre (own_d p2) q3)), .second, .val (.long (own_low (own_d p2))), .second, .val (.long (own_fst (own_d p2) (own_pre (own_d p2) q3))), .second, .val (.long ((own_fst (own_d p2) (own_pre (own_d p2) q3)) ||| (own_low (own_d p2)))), .second, .val (.int (own_sel p5)), .val (.long (own_pos (own_sel p5) q4 (own_fst (own_d p2) (own_pre (own_d p2) q3)) (own_low (own_d p2)) ((own_fst (own_d p2) (own_pre (own_d p2) q3)) ||| (own_low (own_d p2))))), .second, .val (.int (0 : Int32)), .unset] [(.ref b2), (.ref b2)]))
    refine Gd.st (fun _ k => XS.iloadN X2.here hx rfl (hb hby at_222) rfl k) ?_
    show Gd p.tables e below _ (T2.setTop (mkF m 223 #[.val (.int p1), .val (.int p2), .val (.long q3), .second, .val (.long q4), .second, .val (.int p5), .val (.int (own_d p2)), .val (.int ((4 : Int32) * (own_d p2))), .val (.long (own_pre (own_d p2) q3)), .second, .val (.long (own_low (own_d p2))), .second, .val (.long (own_fst (own_d p2) (own_pre (own_d p2) q3))), .second, .val (.long ((own_fst (own_d p2) (own_pre (own_d p2) q3)) ||| (own_low (own_d p2)))), .second, .val (.int (own_sel p5)), .val (.long (own_pos (own_sel p5) q4 (own_fst (own_d p2) (own_pre (own_d p2) q3)) (own_low (own_d p2)) ((own_fst (own_d p2) (own_pre (own_d p2) q3)) ||| (own_low (own_d p2))))), .second, .val (.int (0 : Int32)), .unset] [(.int p1), (.ref b2), (.ref b2)]))
    refine Gd.st (fun _ k => XS.iload X2.here hx rfl (hb hby at_223) rfl k) ?_
    show Gd p.tables e below _ (T2.setTop (mkF m 225 #[.val (.int p1), .val (.int p2), .val (.long q3), .second, .val (.long q4), .second, .val (.int p5), .val (.int (own_d p2)), .val (.int ((4 : Int32) * (own_d p2))), .val (.long (own_pre (own_d p2) q3)), .second, .val (.long (own_low (own_d p2))), .second, .val (.long (own_fst (own_d p2) (own_pre (own_d p2) q3))), .second, .val (.long ((own_fst (own_d p2) (own_pre (own_d p2) q3)) ||| (own_low (own_d p2)))), .second, .val (.int (own_sel p5)), .val (.long (own_pos (own_sel p5) q4 (own_fst (own_d p2) (own_pre (own_d p2) q3)) (own_low (own_d p2)) ((own_fst (own_d p2) (own_pre (own_d p2) q3)) ||| (own_low (own_d p2))))), .second, .val (.int (0 : Int32)), .unset] [(.int (own_d p2)), (.int p1), (.ref b2), (.ref b2)]))
    refine Gd.st (fun _ k => XS.lload X2.here hx rfl (hb hby at_225) rfl k) ?_
    show Gd p.tables e below _ (T2.setTop (mkF m 227 #[.val (.int p1), .val (.int p2), .val (.long q3), .second, .val (.long q4), .second, .val (.int p5), .val (.int (own_d p2)), .val (.int ((4 : Int32) * (own_d p2))), .val (.long (own_pre (own_d p2) q3)), .second, .val (.long (own_low (own_d p2))), .second, .val (.long (own_fst (own_d p2) (own_pre (own_d p2) q3))), .second, .val (.long ((own_fst (own_d p2) (own_pre (own_d p2) q3)) ||| (own_low (own_d p2)))), .second, .val (.int (own_sel p5)), .val (.long (own_pos (own_sel p5) q4 (own_fst (own_d p2) (own_pre (own_d p2) q3)) (own_low (own_d p2)) ((own_fst (own_d p2) (own_pre (own_d p2) q3)) ||| (own_low (own_d p2))))), .second, .val (.int (0 : Int32)), .unset] [(.long (own_pre (own_d p2) q3)), (.int (own_d p2)), (.int p1), (.ref b2), (.ref b2)]))
    obtain ⟨_, _, ⟨T4, L4, k4, n4⟩, -, X4, ⟨Lc4, hQ4, l4, y4, z4⟩, st4⟩ := X2.specialBack hx (y := (⟨"com/example/tattle/tattle/antientropy/HashTrees$Node", "<init>", "(IIJ)V"⟩ : MethodName)) rfl hown (mvT hZ (hw _ (List.mem_of_getElem? (i := 9) rfl))) (mvT hZ (hw _ (List.mem_of_getElem? (i := 10) rfl))) (mvT hZ (hw _ (List.mem_of_getElem? (i := 11) rfl))) (by decide) (backOf (W := 1) (rm2 l Z a0 hw [] b2 p1 (own_d p2) (own_pre (own_d p2) q3) h2 n0 Z3 A2 F_partition_b2 F_depth_b2 F_prefix_b2 g_b2) hZ (hw _ (List.mem_of_getElem? (i := 11) rfl)) (hw _ (List.mem_of_getElem? (i := 8) rfl)) (by decide) (by decide)) (g := (mkF m 227 #[.val (.int p1), .val (.int p2), .val (.long q3), .second, .val (.long q4), .second, .val (.int p5), .val (.int (own_d p2)), .val (.int ((4 : Int32) * (own_d p2))), .val (.long (own_pre (own_d p2) q3)), .second, .val (.long (own_low (own_d p2))), .second, .val (.long (own_fst (own_d p2) (own_pre (own_d p2) q3))), .second, .val (.long ((own_fst (own_d p2) (own_pre (own_d p2) q3)) ||| (own_low (own_d p2)))), .second, .val (.int (own_sel p5)), .val (.long (own_pos (own_sel p5) q4 (own_fst (own_d p2) (own_pre (own_d p2) q3)) (own_low (own_d p2)) ((own_fst (own_d p2) (own_pre (own_d p2) q3)) ||| (own_low (own_d p2))))), .second, .val (.int (0 : Int32)), .unset] [(.long (own_pre (own_d p2) q3)), (.int (own_d p2)), (.int p1), (.ref b2), (.ref b2)])) rfl (by rw [hml]; rfl) (Steps.refl _) (a := b2) (argsL := [(.int p1), (.int (own_d p2)), (.long (own_pre (own_d p2) q3))]) (rest := [(.ref b2)]) (lenOf pd__IIJ_V_6 rfl) rfl (by show 2 * 0 + _ ≤ _; exact Nat.le_of_eq rfl) (hb hby at_227) (fun _ _ => ⟨rfl, e2, (by decide : 1 + 0 ≤ _), (by decide : 3 + 0 ≤ _)⟩)
    dsimp only [Pt.U, Pt.locs, Pt.cells, Pt.slots] at X4 l4 y4 z4 st4 hQ4
    simp only [Nat.add_zero, Nat.zero_add, Nat.reduceAdd] at y4 z4
    subst y4 z4
    obtain ⟨rfl, N4q, K4, A4, F4_0, F4_1, F4_2⟩ := hQ4
    have N4 : Fr n0 L4 := by rw [l4]; exact Fr.app N1 N4q
    clear l4
    refine Gd.st (fun _ k => st4.trans k) ?_
    have Z5 : n0 ≤ T4.heap.size := Nat.le_trans Z3 K4.1
    show Gd p.tables e below _ (T4.setTop (mkF m 230 #[.val (.int p1), .val (.int p2), .val (.long q3), .second, .val (.long q4), .second, .val (.int p5), .val (.int (own_d p2)), .val (.int ((4 : Int32) * (own_d p2))), .val (.long (own_pre (own_d p2) q3)), .second, .val (.long (own_low (own_d p2))), .second, .val (.long (own_fst (own_d p2) (own_pre (own_d p2) q3))), .second, .val (.long ((own_fst (own_d p2) (own_pre (own_d p2) q3)) ||| (own_low (own_d p2)))), .second, .val (.int (own_sel p5)), .val (.long (own_pos (own_sel p5) q4 (own_fst (own_d p2) (own_pre (own_d p2) q3)) (own_low (own_d p2)) ((own_fst (own_d p2) (own_pre (own_d p2) q3)) ||| (own_low (own_d p2))))), .second, .val (.int (0 : Int32)), .unset] [(.ref b2)]))
    refine Gd.st (fun _ k => XS.astore X4.here hx rfl (hb hby at_230) rfl rfl (l' := #[.val (.int p1), .val (.int p2), .val (.long q3), .second, .val (.long q4), .second, .val (.int p5), .val (.int (own_d p2)), .val (.int ((4 : Int32) * (own_d p2))), .val (.long (own_pre (own_d p2) q3)), .second, .val (.long (own_low (own_d p2))), .second, .val (.long (own_fst (own_d p2) (own_pre (own_d p2) q3))), .second, .val (.long ((own_fst (own_d p2) (own_pre (own_d p2) q3)) ||| (own_low (own_d p2)))), .second, .val (.int (own_sel p5)), .val (.long (own_pos (own_sel p5) q4 (own_fst (own_d p2) (own_pre (own_d p2) q3)) (own_low (own_d p2)) ((own_fst (own_d p2) (own_pre (own_d p2) q3)) ||| (own_low (own_d p2))))), .second, .val (.int (0 : Int32)), .val (.ref b2)]) rfl k) ?_
    show Gd p.tables e below _ (T4.setTop (mkF m 232 #[.val (.int p1), .val (.int p2), .val (.long q3), .second, .val (.long q4), .second, .val (.int p5), .val (.int (own_d p2)), .val (.int ((4 : Int32) * (own_d p2))), .val (.long (own_pre (own_d p2) q3)), .second, .val (.long (own_low (own_d p2))), .second, .val (.long (own_fst (own_d p2) (own_pre (own_d p2) q3))), .second, .val (.long ((own_fst (own_d p2) (own_pre (own_d p2) q3)) ||| (own_low (own_d p2)))), .second, .val (.int (own_sel p5)), .val (.long (own_pos (own_sel p5) q4 (own_fst (own_d p2) (own_pre (own_d p2) q3)) (own_low (own_d p2)) ((own_fst (own_d p2) (own_pre (own_d p2) q3)) ||| (own_low (own_d p2))))), .second, .val (.int (0 : Int32)), .val (.ref b2)] []))
    refine Gd.st (fun _ k => XS.aload X4.here hx rfl (hb hby at_232) rfl rfl k) ?_
    show Gd p.tables e below _ (T4.setTop (mkF m 234 #[.val (.int p1), .val (.int p2), .val (.long q3), .second, .val (.long q4), .second, .val (.int p5), .val (.int (own_d p2)), .val (.int ((4 : Int32) * (own_d p2))), .val (.long (own_pre (own_d p2) q3)), .second, .val (.long (own_low (own_d p2))), .second, .val (.long (own_fst (own_d p2) (own_pre (own_d p2) q3))), .second, .val (.long ((own_fst (own_d p2) (own_pre (own_d p2) q3)) ||| (own_low (own_d p2)))), .second, .val (.int (own_sel p5)), .val (.long (own_pos (own_sel p5) q4 (own_fst (own_d p2) (own_pre (own_d p2) q3)) (own_low (own_d p2)) ((own_fst (own_d p2) (own_pre (own_d p2) q3)) ||| (own_low (own_d p2))))), .second, .val (.int (0 : Int32)), .val (.ref b2)] [(.ref b2)]))
    refine Gd.st (fun _ k => XS.lload X4.here hx rfl (hb hby at_234) rfl k) ?_
    show Gd p.tables e below _ (T4.setTop (mkF m 236 #[.val (.int p1), .val (.int p2), .val (.long q3), .second, .val (.long q4), .second, .val (.int p5), .val (.int (own_d p2)), .val (.int ((4 : Int32) * (own_d p2))), .val (.long (own_pre (own_d p2) q3)), .second, .val (.long (own_low (own_d p2))), .second, .val (.long (own_fst (own_d p2) (own_pre (own_d p2) q3))), .second, .val (.long ((own_fst (own_d p2) (own_pre (own_d p2) q3)) ||| (own_low (own_d p2)))), .second, .val (.int (own_sel p5)), .val (.long (own_pos (own_sel p5) q4 (own_fst (own_d p2) (own_pre (own_d p2) q3)) (own_low (own_d p2)) ((own_fst (own_d p2) (own_pre (own_d p2) q3)) ||| (own_low (own_d p2))))), .second, .val (.int (0 : Int32)), .val (.ref b2)] [(.long (own_pos (own_sel p5) q4 (own_fst (own_d p2) (own_pre (own_d p2) q3)) (own_low (own_d p2)) ((own_fst (own_d p2) (own_pre (own_d p2) q3)) ||| (own_low (own_d p2))))), (.ref b2)]))
    obtain ⟨cq6, kq6, q6a, q6b, q6c⟩ := isOf hZ rfl A4
    obtain ⟨_, _, ⟨T6, L6, k6, n6⟩, -, X6, ⟨Lc6, hQ6, l6, y6, z6⟩, st6⟩ := X4.virtualBack hx (y := (⟨"com/example/tattle/tattle/antientropy/HashTrees$Node", "covers", "(J)Z"⟩ : MethodName)) (z := (⟨"com/example/tattle/tattle/antientropy/HashTrees$Node", "covers", "(J)Z"⟩ : MethodName)) hown (mvT hZ (hw _ (List.mem_of_getElem? (i := 26) rfl))) (mvT hZ (hw _ (List.mem_of_getElem? (i := 27) rfl))) (notFace_of_selects (args := #[]) (mvT hZ (hw _ (List.mem_of_getElem? (i := 29) rfl)))) (mvT hZ (hw _ (List.mem_of_getElem? (i := 29) rfl))) (mvT hZ (hw _ (List.mem_of_getElem? (i := 28) rfl))) (by decide) (backOf (W := 0) (rm5 l Z a0 hw [] b2 (own_pos (own_sel p5) q4 (own_fst (own_d p2) (own_pre (own_d p2) q3)) (own_low (own_d p2)) ((own_fst (own_d p2) (own_pre (own_d p2) q3)) ||| (own_low (own_d p2)))) (own_d p2) (own_pre (own_d p2) q3) T4.heap n0 Z5 F4_1 F4_2) hZ (hw _ (List.mem_of_getElem? (i := 30) rfl)) (hw _ (List.mem_of_getElem? (i := 8) rfl)) (by decide) (by decide)) q6a q6c (g := (mkF m 236 #[.val (.int p1), .val (.int p2), .val (.long q3), .second, .val (.long q4), .second, .val (.int p5), .val (.int (own_d p2)), .val (.int ((4 : Int32) * (own_d p2))), .val (.long (own_pre (own_d p2) q3)), .second, .val (.long (own_low (own_d p2))), .second, .val (.long (own_fst (own_d p2) (own_pre (own_d p2) q3))), .second, .val (.long ((own_fst (own_d p2) (own_pre (own_d p2) q3)) ||| (own_low (own_d p2)))), .second, .val (.int (own_sel p5)), .val (.long (own_pos (own_sel p5) q4 (own_fst (own_d p2) (own_pre (own_d p2) q3)) (own_low (own_d p2)) ((own_fst (own_d p2) (own_pre (own_d p2) q3)) ||| (own_low (own_d p2))))), .second, .val (.int (0 : Int32)), .val (.ref b2)] [(.long (own_pos (own_sel p5) q4 (own_fst (own_d p2) (own_pre (own_d p2) q3)) (own_low (own_d p2)) ((own_fst (own_d p2) (own_pre (own_d p2) q3)) ||| (own_low (own_d p2))))), (.ref b2)])) rfl (by rw [hml]; rfl) (Steps.refl _) (argsL := [(.long (own_pos (own_sel p5) q4 (own_fst (own_d p2) (own_pre (own_d p2) q3)) (own_low (own_d p2)) ((own_fst (own_d p2) (own_pre (own_d p2) q3)) ||| (own_low (own_d p2)))))]) (rest := []) (lenOf pd__J_Z_4 rfl) rfl (by show 2 * 0 + _ ≤ _; exact Nat.le_of_eq rfl) (hb hby at_236) (fun _ _ => ⟨rfl, rfl, (by decide : 1 + 0 ≤ _), (by decide : 3 + 0 ≤ _)⟩)
    dsimp only [Pt.U, Pt.locs, Pt.cells, Pt.slots] at X6 l6 y6 z6 st6 hQ6
    simp only [Nat.add_zero, Nat.zero_add, Nat.reduceAdd] at y6 z6
    subst y6 z6
    obtain ⟨rfl, N6q, eh6⟩ := hQ6
    have N6 : Fr n0 L6 := by rw [l6]; exact Fr.app N4 N6q
    clear l6
    refine Gd.st (fun _ k => st6.trans k) ?_
    have e6 : T6.heap = T4.heap := eh6
    show Gd p.tables e below _ (T6.setTop (mkF m 239 #[.val (.int p1), .val (.int p2), .val (.long q3), .second, .val (.long q4), .second, .val (.int p5), .val (.int (own_d p2)), .val (.int ((4 : Int32) * (own_d p2))), .val (.long (own_pre (own_d p2) q3)), .second, .val (.long (own_low (own_d p2))), .second, .val (.long (own_fst (own_d p2) (own_pre (own_d p2) q3))), .second, .val (.long ((own_fst (own_d p2) (own_pre (own_d p2) q3)) ||| (own_low (own_d p2)))), .second, .val (.int (own_sel p5)), .val (.long (own_pos (own_sel p5) q4 (own_fst (own_d p2) (own_pre (own_d p2) q3)) (own_low (own_d p2)) ((own_fst (own_d p2) (own_pre (own_d p2) q3)) ||| (own_low (own_d p2))))), .second, .val (.int (0 : Int32)), .val (.ref b2)] [(.int (own_cov (own_d p2) (own_pre (own_d p2) q3) (own_pos (own_sel p5) q4 (own_fst (own_d p2) (own_pre (own_d p2) q3)) (own_low (own_d p2)) ((own_fst (own_d p2) (own_pre (own_d p2) q3)) ||| (own_low (own_d p2))))))]))
    refine Gd.st (fun _ k => XS.iload X6.here hx rfl (hb hby at_239) rfl k) ?_
    show Gd p.tables e below _ (T6.setTop (mkF m 241 #[.val (.int p1), .val (.int p2), .val (.long q3), .second, .val (.long q4), .second, .val (.int p5), .val (.int (own_d p2)), .val (.int ((4 : Int32) * (own_d p2))), .val (.long (own_pre (own_d p2) q3)), .second, .val (.long (own_low (own_d p2))), .second, .val (.long (own_fst (own_d p2) (own_pre (own_d p2) q3))), .second, .val (.long ((own_fst (own_d p2) (own_pre (own_d p2) q3)) ||| (own_low (own_d p2)))), .second, .val (.int (own_sel p5)), .val (.long (own_pos (own_sel p5) q4 (own_fst (own_d p2) (own_pre (own_d p2) q3)) (own_low (own_d p2)) ((own_fst (own_d p2) (own_pre (own_d p2) q3)) ||| (own_low (own_d p2))))), .second, .val (.int (0 : Int32)), .val (.ref b2)] [(.int (0 : Int32)), (.int (own_cov (own_d p2) (own_pre (own_d p2) q3) (own_pos (own_sel p5) q4 (own_fst (own_d p2) (own_pre (own_d p2) q3)) (own_low (own_d p2)) ((own_fst (own_d p2) (own_pre (own_d p2) q3)) ||| (own_low (own_d p2))))))]))
    refine Gd.st (fun _ k => XS.icmpNo X6.here hx rfl (hb hby at_241) rfl (teq (by rw [own_iff]; simp [hc198])).2 k) ?_
    show Gd p.tables e below _ (T6.setTop (mkF m 244 #[.val (.int p1), .val (.int p2), .val (.long q3), .second, .val (.long q4), .second, .val (.int p5), .val (.int (own_d p2)), .val (.int ((4 : Int32) * (own_d p2))), .val (.long (own_pre (own_d p2) q3)), .second, .val (.long (own_low (own_d p2))), .second, .val (.long (own_fst (own_d p2) (own_pre (own_d p2) q3))), .second, .val (.long ((own_fst (own_d p2) (own_pre (own_d p2) q3)) ||| (own_low (own_d p2)))), .second, .val (.int (own_sel p5)), .val (.long (own_pos (own_sel p5) q4 (own_fst (own_d p2) (own_pre (own_d p2) q3)) (own_low (own_d p2)) ((own_fst (own_d p2) (own_pre (own_d p2) q3)) ||| (own_low (own_d p2))))), .second, .val (.int (0 : Int32)), .val (.ref b2)] []))
    refine Gd.st (fun _ k => XS.iconst X6.here hx rfl (hb hby at_244) k) ?_
    show Gd p.tables e below _ (T6.setTop (mkF m 245 #[.val (.int p1), .val (.int p2), .val (.long q3), .second, .val (.long q4), .second, .val (.int p5), .val (.int (own_d p2)), .val (.int ((4 : Int32) * (own_d p2))), .val (.long (own_pre (own_d p2) q3)), .second, .val (.long (own_low (own_d p2))), .second, .val (.long (own_fst (own_d p2) (own_pre (own_d p2) q3))), .second, .val (.long ((own_fst (own_d p2) (own_pre (own_d p2) q3)) ||| (own_low (own_d p2)))), .second, .val (.int (own_sel p5)), .val (.long (own_pos (own_sel p5) q4 (own_fst (own_d p2) (own_pre (own_d p2) q3)) (own_low (own_d p2)) ((own_fst (own_d p2) (own_pre (own_d p2) q3)) ||| (own_low (own_d p2))))), .second, .val (.int (0 : Int32)), .val (.ref b2)] [(.int (1 : Int32))]))
    refine Gd.st (fun _ k => XS.goto X6.here hx rfl (pc0 := 245) (pc' := 249) rfl (hb hby at_245) (by decide) (by decide) k) ?_
    show Gd p.tables e below _ (T6.setTop (mkF m 249 #[.val (.int p1), .val (.int p2), .val (.long q3), .second, .val (.long q4), .second, .val (.int p5), .val (.int (own_d p2)), .val (.int ((4 : Int32) * (own_d p2))), .val (.long (own_pre (own_d p2) q3)), .second, .val (.long (own_low (own_d p2))), .second, .val (.long (own_fst (own_d p2) (own_pre (own_d p2) q3))), .second, .val (.long ((own_fst (own_d p2) (own_pre (own_d p2) q3)) ||| (own_low (own_d p2)))), .second, .val (.int (own_sel p5)), .val (.long (own_pos (own_sel p5) q4 (own_fst (own_d p2) (own_pre (own_d p2) q3)) (own_low (own_d p2)) ((own_fst (own_d p2) (own_pre (own_d p2) q3)) ||| (own_low (own_d p2))))), .second, .val (.int (0 : Int32)), .val (.ref b2)] [(.int (1 : Int32))]))
    obtain ⟨fs, hr, hrun, hended, hW, hsame⟩ := X6.leave (v := some (.int (1 : Int32))) (fun h => by rw [Bd.returns] at h; cases h) Bd.notSynchronized
    refine Gd.mk (o := .returned (some (.int (1 : Int32)))) (retN X6 hx (t := .boolean) Bd.returns (by simp) (hb hby at_249) hr) ⟨hrun, hended, _, _, rfl, ?_, ⟨_, rfl⟩, hW, hsame.mono (by decide) (by decide)⟩
    show Q0 Z p1 p2 q3 q4 p5 h0 n0 _ T6.heap _
    rw [e6]
    exact ⟨rfl, N6⟩
  · skip
    refine Gd.st (fun _ k => XS.ifNo X1.here hx rfl (hb hby at_198) rfl ((if0 _ _).trans (feq hc198).1) k) ?_
    show Gd p.tables e below _ (T1.setTop (mkF m 201 #[.val (.int p1), .val (.int p2), .val (.long q3), .second, .val (.long q4), .second, .val (.int p5), .val (.int (own_d p2)), .val (.int ((4 : Int32) * (own_d p2))), .val (.long (own_pre (own_d p2) q3)), .second, .val (.long (own_low (own_d p2))), .second, .val (.long (own_fst (own_d p2) (own_pre (own_d p2) q3))), .second, .val (.long ((own_fst (own_d p2) (own_pre (own_d p2) q3)) ||| (own_low (own_d p2)))), .second, .val (.int (own_sel p5)), .val (.long (own_pos (own_sel p5) q4 (own_fst (own_d p2) (own_pre (own_d p2) q3)) (own_low (own_d p2)) ((own_fst (own_d p2) (own_pre (own_d p2) q3)) ||| (own_low (own_d p2))))), .second, .unset, .unset] []))
    refine Gd.st (fun _ k => XS.lload X1.here hx rfl (hb hby at_201) rfl k) ?_
    show Gd p.tables e below _ (T1.setTop (mkF m 203 #[.val (.int p1), .val (.int p2), .val (.long q3), .second, .val (.long q4), .second, .val (.int p5), .val (.int (own_d p2)), .val (.int ((4 : Int32) * (own_d p2))), .val (.long (own_pre (own_d p2) q3)), .second, .val (.long (own_low (own_d p2))), .second, .val (.long (own_fst (own_d p2) (own_pre (own_d p2) q3))), .second, .val (.long ((own_fst (own_d p2) (own_pre (own_d p2) q3)) ||| (own_low (own_d p2)))), .second, .val (.int (own_sel p5)), .val (.long (own_pos (own_sel p5) q4 (own_fst (own_d p2) (own_pre (own_d p2) q3)) (own_low (own_d p2)) ((own_fst (own_d p2) (own_pre (own_d p2) q3)) ||| (own_low (own_d p2))))), .second, .unset, .unset] [(.long (own_pos (own_sel p5) q4 (own_fst (own_d p2) (own_pre (own_d p2) q3)) (own_low (own_d p2)) ((own_fst (own_d p2) (own_pre (own_d p2) q3)) ||| (own_low (own_d p2)))))]))
    refine Gd.st (fun _ k => XS.lload X1.here hx rfl (hb hby at_203) rfl k) ?_
    show Gd p.tables e below _ (T1.setTop (mkF m 205 #[.val (.int p1), .val (.int p2), .val (.long q3), .second, .val (.long q4), .second, .val (.int p5), .val (.int (own_d p2)), .val (.int ((4 : Int32) * (own_d p2))), .val (.long (own_pre (own_d p2) q3)), .second, .val (.long (own_low (own_d p2))), .second, .val (.long (own_fst (own_d p2) (own_pre (own_d p2) q3))), .second, .val (.long ((own_fst (own_d p2) (own_pre (own_d p2) q3)) ||| (own_low (own_d p2)))), .second, .val (.int (own_sel p5)), .val (.long (own_pos (own_sel p5) q4 (own_fst (own_d p2) (own_pre (own_d p2) q3)) (own_low (own_d p2)) ((own_fst (own_d p2) (own_pre (own_d p2) q3)) ||| (own_low (own_d p2))))), .second, .unset, .unset] [(.long ((own_fst (own_d p2) (own_pre (own_d p2) q3)) ||| (own_low (own_d p2)))), (.long (own_pos (own_sel p5) q4 (own_fst (own_d p2) (own_pre (own_d p2) q3)) (own_low (own_d p2)) ((own_fst (own_d p2) (own_pre (own_d p2) q3)) ||| (own_low (own_d p2)))))]))
    obtain ⟨_, _, ⟨T7, L7, k7, n7⟩, -, X7, ⟨Lc7, hQ7, l7, y7, z7⟩, st7⟩ := Jvm.LawKit.callS X1 hx (y := (⟨"com/example/tattle/tattle/antientropy/HashTreesCoversPinLaw", "unsignedLessOrEqual", "(JJ)Z"⟩ : MethodName)) hown (mvT hZ (hw _ (List.mem_of_getElem? (i := 1) rfl))) (mvT hZ (hw _ (List.mem_of_getElem? (i := 2) rfl))) (mvT hZ (hw _ (List.mem_of_getElem? (i := 3) rfl))) (mvT hZ (hw _ (List.mem_of_getElem? (i := 4) rfl))) (by decide) (backOf (W := 0) (rm1 l Z a0 hw [] (own_pos (own_sel p5) q4 (own_fst (own_d p2) (own_pre (own_d p2) q3)) (own_low (own_d p2)) ((own_fst (own_d p2) (own_pre (own_d p2) q3)) ||| (own_low (own_d p2)))) ((own_fst (own_d p2) (own_pre (own_d p2) q3)) ||| (own_low (own_d p2))) h0 n0 Z0 ) hZ (hw _ (List.mem_of_getElem? (i := 4) rfl)) (hw _ (List.mem_of_getElem? (i := 3) rfl)) (by decide) (by decide)) (g := (mkF m 205 #[.val (.int p1), .val (.int p2), .val (.long q3), .second, .val (.long q4), .second, .val (.int p5), .val (.int (own_d p2)), .val (.int ((4 : Int32) * (own_d p2))), .val (.long (own_pre (own_d p2) q3)), .second, .val (.long (own_low (own_d p2))), .second, .val (.long (own_fst (own_d p2) (own_pre (own_d p2) q3))), .second, .val (.long ((own_fst (own_d p2) (own_pre (own_d p2) q3)) ||| (own_low (own_d p2)))), .second, .val (.int (own_sel p5)), .val (.long (own_pos (own_sel p5) q4 (own_fst (own_d p2) (own_pre (own_d p2) q3)) (own_low (own_d p2)) ((own_fst (own_d p2) (own_pre (own_d p2) q3)) ||| (own_low (own_d p2))))), .second, .unset, .unset] [(.long ((own_fst (own_d p2) (own_pre (own_d p2) q3)) ||| (own_low (own_d p2)))), (.long (own_pos (own_sel p5) q4 (own_fst (own_d p2) (own_pre (own_d p2) q3)) (own_low (own_d p2)) ((own_fst (own_d p2) (own_pre (own_d p2) q3)) ||| (own_low (own_d p2)))))])) rfl (by rw [hml]; rfl) (argsL := [(.long (own_pos (own_sel p5) q4 (own_fst (own_d p2) (own_pre (own_d p2) q3)) (own_low (own_d p2)) ((own_fst (own_d p2) (own_pre (own_d p2) q3)) ||| (own_low (own_d p2))))), (.long ((own_fst (own_d p2) (own_pre (own_d p2) q3)) ||| (own_low (own_d p2))))]) (rest := []) (lenOf pd__JJ_Z_5 rfl) rfl (by show 2 * 0 + _ ≤ _; exact Nat.le_of_eq rfl) (hb hby at_205) (fun _ _ => ⟨rfl, e1, (by decide : 0 + 0 ≤ _), (by decide : 0 + 0 ≤ _)⟩)
    dsimp only [Pt.U, Pt.locs, Pt.cells, Pt.slots] at X7 l7 y7 z7 st7 hQ7
    simp only [Nat.add_zero, Nat.zero_add, Nat.reduceAdd] at y7 z7
    subst y7 z7
    obtain ⟨rfl, N7q, eh7⟩ := hQ7
    have N7 : Fr n0 L7 := by rw [l7]; exact Fr.app N1 N7q
    clear l7
    refine Gd.st st7 ?_
    have e7 : T7.heap = h0 := eh7
    show Gd p.tables e below _ (T7.setTop (mkF m 208 #[.val (.int p1), .val (.int p2), .val (.long q3), .second, .val (.long q4), .second, .val (.int p5), .val (.int (own_d p2)), .val (.int ((4 : Int32) * (own_d p2))), .val (.long (own_pre (own_d p2) q3)), .second, .val (.long (own_low (own_d p2))), .second, .val (.long (own_fst (own_d p2) (own_pre (own_d p2) q3))), .second, .val (.long ((own_fst (own_d p2) (own_pre (own_d p2) q3)) ||| (own_low (own_d p2)))), .second, .val (.int (own_sel p5)), .val (.long (own_pos (own_sel p5) q4 (own_fst (own_d p2) (own_pre (own_d p2) q3)) (own_low (own_d p2)) ((own_fst (own_d p2) (own_pre (own_d p2) q3)) ||| (own_low (own_d p2))))), .second, .unset, .unset] [(.int (own_ule (own_pos (own_sel p5) q4 (own_fst (own_d p2) (own_pre (own_d p2) q3)) (own_low (own_d p2)) ((own_fst (own_d p2) (own_pre (own_d p2) q3)) ||| (own_low (own_d p2)))) ((own_fst (own_d p2) (own_pre (own_d p2) q3)) ||| (own_low (own_d p2)))))]))
    by_cases hc208 : (own_ule (own_pos (own_sel p5) q4 (own_fst (own_d p2) (own_pre (own_d p2) q3)) (own_low (own_d p2)) ((own_fst (own_d p2) (own_pre (own_d p2) q3)) ||| (own_low (own_d p2)))) ((own_fst (own_d p2) (own_pre (own_d p2) q3)) ||| (own_low (own_d p2)))) = (0 : Int32)
    · skip
      refine Gd.st (fun _ k => XS.ifYes X7.here hx rfl (pc0 := 208) (pc' := 215) rfl (hb hby at_208) rfl ((if0 _ _).trans (teq hc208).1) (by decide) (by decide) k) ?_
      show Gd p.tables e below _ (T7.setTop (mkF m 215 #[.val (.int p1), .val (.int p2), .val (.long q3), .second, .val (.long q4), .second, .val (.int p5), .val (.int (own_d p2)), .val (.int ((4 : Int32) * (own_d p2))), .val (.long (own_pre (own_d p2) q3)), .second, .val (.long (own_low (own_d p2))), .second, .val (.long (own_fst (own_d p2) (own_pre (own_d p2) q3))), .second, .val (.long ((own_fst (own_d p2) (own_pre (own_d p2) q3)) ||| (own_low (own_d p2)))), .second, .val (.int (own_sel p5)), .val (.long (own_pos (own_sel p5) q4 (own_fst (own_d p2) (own_pre (own_d p2) q3)) (own_low (own_d p2)) ((own_fst (own_d p2) (own_pre (own_d p2) q3)) ||| (own_low (own_d p2))))), .second, .unset, .unset] []))
      refine Gd.st (fun _ k => XS.iconst X7.here hx rfl (hb hby at_215) k) ?_
      show Gd p.tables e below _ (T7.setTop (mkF m 216 #[.val (.int p1), .val (.int p2), .val (.long q3), .second, .val (.long q4), .second, .val (.int p5), .val (.int (own_d p2)), .val (.int ((4 : Int32) * (own_d p2))), .val (.long (own_pre (own_d p2) q3)), .second, .val (.long (own_low (own_d p2))), .second, .val (.long (own_fst (own_d p2) (own_pre (own_d p2) q3))), .second, .val (.long ((own_fst (own_d p2) (own_pre (own_d p2) q3)) ||| (own_low (own_d p2)))), .second, .val (.int (own_sel p5)), .val (.long (own_pos (own_sel p5) q4 (own_fst (own_d p2) (own_pre (own_d p2) q3)) (own_low (own_d p2)) ((own_fst (own_d p2) (own_pre (own_d p2) q3)) ||| (own_low (own_d p2))))), .second, .unset, .unset] [(.int (0 : Int32))]))
      refine Gd.st (fun _ k => XS.istore X7.here hx rfl (hb hby at_216) rfl (l' := #[.val (.int p1), .val (.int p2), .val (.long q3), .second, .val (.long q4), .second, .val (.int p5), .val (.int (own_d p2)), .val (.int ((4 : Int32) * (own_d p2))), .val (.long (own_pre (own_d p2) q3)), .second, .val (.long (own_low (own_d p2))), .second, .val (.long (own_fst (own_d p2) (own_pre (own_d p2) q3))), .second, .val (.long ((own_fst (own_d p2) (own_pre (own_d p2) q3)) ||| (own_low (own_d p2)))), .second, .val (.int (own_sel p5)), .val (.long (own_pos (own_sel p5) q4 (own_fst (own_d p2) (own_pre (own_d p2) q3)) (own_low (own_d p2)) ((own_fst (own_d p2) (own_pre (own_d p2) q3)) ||| (own_low (own_d p2))))), .second, .val (.int (0 : Int32)), .unset]) rfl k) ?_
      show Gd p.tables e below _ (T7.setTop (mkF m 218 #[.val (.int p1), .val (.int p2), .val (.long q3), .second, .val (.long q4), .second, .val (.int p5), .val (.int (own_d p2)), .val (.int ((4 : Int32) * (own_d p2))), .val (.long (own_pre (own_d p2) q3)), .second, .val (.long (own_low (own_d p2))), .second, .val (.long (own_fst (own_d p2) (own_pre (own_d p2) q3))), .second, .val (.long ((own_fst (own_d p2) (own_pre (own_d p2) q3)) ||| (own_low (own_d p2)))), .second, .val (.int (own_sel p5)), .val (.long (own_pos (own_sel p5) q4 (own_fst (own_d p2) (own_pre (own_d p2) q3)) (own_low (own_d p2)) ((own_fst (own_d p2) (own_pre (own_d p2) q3)) ||| (own_low (own_d p2))))), .second, .val (.int (0 : Int32)), .unset] []))
      obtain ⟨T8, h8, X8, e8, E8, A8, D8, -, st8⟩ := newO X7 hx hZ hown (hw _ (List.mem_of_getElem? (i := 6) rfl)) (hw _ (List.mem_of_getElem? (i := 7) rfl)) (hw _ (List.mem_of_getElem? (i := 8) rfl)) e7 (g := (mkF m 218 #[.val (.int p1), .val (.int p2), .val (.long q3), .second, .val (.long q4), .second, .val (.int p5), .val (.int (own_d p2)), .val (.int ((4 : Int32) * (own_d p2))), .val (.long (own_pre (own_d p2) q3)), .second, .val (.long (own_low (own_d p2))), .second, .val (.long (own_fst (own_d p2) (own_pre (own_d p2) q3))), .second, .val (.long ((own_fst (own_d p2) (own_pre (own_d p2) q3)) ||| (own_low (own_d p2)))), .second, .val (.int (own_sel p5)), .val (.long (own_pos (own_sel p5) q4 (own_fst (own_d p2) (own_pre (own_d p2) q3)) (own_low (own_d p2)) ((own_fst (own_d p2) (own_pre (own_d p2) q3)) ||| (own_low (own_d p2))))), .second, .val (.int (0 : Int32)), .unset] [])) rfl (hb hby at_218) (by decide) (by decide)
      obtain ⟨b8, g8⟩ : ∃ z, z = h0.size := ⟨_, rfl⟩
      rw [← g8] at A8 D8 st8
      refine Gd.st st8 ?_
      have g_b8 : n0 ≤ b8 := Nat.le_trans Z0 (Nat.le_of_eq g8.symm)
      have Z9 : n0 ≤ h8.size := Nat.le_trans Z0 E8.1
      have F_partition_b8 : Fld Z h8 b8 "com/example/tattle/tattle/antientropy/HashTrees$Node" "partition" "I" (.int (0 : Int32)) := D8 (Or.inr (hw _ (List.mem_of_getElem? (i := 21) rfl))) (ty := .int) (by decide)
      have F_depth_b8 : Fld Z h8 b8 "com/example/tattle/tattle/antientropy/HashTrees$Node" "depth" "I" (.int (0 : Int32)) := D8 (Or.inr (hw _ (List.mem_of_getElem? (i := 23) rfl))) (ty := .int) (by decide)
      have F_prefix_b8 : Fld Z h8 b8 "com/example/tattle/tattle/antientropy/HashTrees$Node" "prefix" "J" (.long (0 : Int64)) := D8 (Or.inr (hw _ (List.mem_of_getElem? (i := 25) rfl))) (ty := .long) (by decide)
      show Gd p.tables e below _ (T8.setTop (mkF m 221 #[.val (.int p1), .val (.int p2), .val (.long q3), .second, .val (.long q4), .second, .val (.int p5), .val (.int (own_d p2)), .val (.int ((4 : Int32) * (own_d p2))), .val (.long (own_pre (own_d p2) q3)), .second, .val (.long (own_low (own_d p2))), .second, .val (.long (own_fst (own_d p2) (own_pre (own_d p2) q3))), .second, .val (.long ((own_fst (own_d p2) (own_pre (own_d p2) q3)) ||| (own_low (own_d p2)))), .second, .val (.int (own_sel p5)), .val (.long (own_pos (own_sel p5) q4 (own_fst (own_d p2) (own_pre (own_d p2) q3)) (own_low (own_d p2)) ((own_fst (own_d p2) (own_pre (own_d p2) q3)) ||| (own_low (own_d p2))))), .second, .val (.int (0 : Int32)), .unset] [(.ref b8)]))
      refine Gd.st (fun _ k => XS.dup X8.here hx rfl (hb hby at_221) rfl rfl k) ?_
      show Gd p.tables e below _ (T8.setTop (mkF m 222 #[.val (.int p1), .val (.int p2), .val (.long q3), .second, .val (.long q4), .second, .val (.int p5), .val (.int (own_d p2)), .val (.int ((4 : Int32) * (own_d p2))), .val (.long (own_pre (own_d p2) q3)), .second, .val (.long (own_low (own_d p2))), .second, .val (.long (own_fst (own_d p2) (own_pre (own_d p2) q3))), .second, .val (.long ((own_fst (own_d p2) (own_pre (own_d p2) q3)) ||| (own_low (own_d p2)))), .second, .val (.int (own_sel p5)), .val (.long (own_pos (own_sel p5) q4 (own_fst (own_d p2) (own_pre (own_d p2) q3)) (own_low (own_d p2)) ((own_fst (own_d p2) (own_pre (own_d p2) q3)) ||| (own_low (own_d p2))))), .second, .val (.int (0 : Int32)), .unset] [(.ref b8), (.ref b8)]))
      refine Gd.st (fun _ k => XS.iloadN X8.here hx rfl (hb hby at_222) rfl k) ?_
      show Gd p.tables e below _ (T8.setTop (mkF m 223 #[.val (.int p1), .val (.int p2), .val (.long q3), .second, .val (.long q4), .second, .val (.int p5), .val (.int (own_d p2)), .val (.int ((4 : Int32) * (own_d p2))), .val (.long (own_pre (own_d p2) q3)), .second, .val (.long (own_low (own_d p2))), .second, .val (.long (own_fst (own_d p2) (own_pre (own_d p2) q3))), .second, .val (.long ((own_fst (own_d p2) (own_pre (own_d p2) q3)) ||| (own_low (own_d p2)))), .second, .val (.int (own_sel p5)), .val (.long (own_pos (own_sel p5) q4 (own_fst (own_d p2) (own_pre (own_d p2) q3)) (own_low (own_d p2)) ((own_fst (own_d p2) (own_pre (own_d p2) q3)) ||| (own_low (own_d p2))))), .second, .val (.int (0 : Int32)), .unset] [(.int p1), (.ref b8), (.ref b8)]))
      refine Gd.st (fun _ k => XS.iload X8.here hx rfl (hb hby at_223) rfl k) ?_
      show Gd p.tables e below _ (T8.setTop (mkF m 225 #[.val (.int p1), .val (.int p2), .val (.long q3), .second, .val (.long q4), .second, .val (.int p5), .val (.int (own_d p2)), .val (.int ((4 : Int32) * (own_d p2))), .val (.long (own_pre (own_d p2) q3)), .second, .val (.long (own_low (own_d p2))), .second, .val (.long (own_fst (own_d p2) (own_pre (own_d p2) q3))), .second, .val (.long ((own_fst (own_d p2) (own_pre (own_d p2) q3)) ||| (own_low (own_d p2)))), .second, .val (.int (own_sel p5)), .val (.long (own_pos (own_sel p5) q4 (own_fst (own_d p2) (own_pre (own_d p2) q3)) (own_low (own_d p2)) ((own_fst (own_d p2) (own_pre (own_d p2) q3)) ||| (own_low (own_d p2))))), .second, .val (.int (0 : Int32)), .unset] [(.int (own_d p2)), (.int p1), (.ref b8), (.ref b8)]))
      refine Gd.st (fun _ k => XS.lload X8.here hx rfl (hb hby at_225) rfl k) ?_
      show Gd p.tables e below _ (T8.setTop (mkF m 227 #[.val (.int p1), .val (.int p2), .val (.long q3), .second, .val (.long q4), .second, .val (.int p5), .val (.int (own_d p2)), .val (.int ((4 : Int32) * (own_d p2))), .val (.long (own_pre (own_d p2) q3)), .second, .val (.long (own_low (own_d p2))), .second, .val (.long (own_fst (own_d p2) (own_pre (own_d p2) q3))), .second, .val (.long ((own_fst (own_d p2) (own_pre (own_d p2) q3)) ||| (own_low (own_d p2)))), .second, .val (.int (own_sel p5)), .val (.long (own_pos (own_sel p5) q4 (own_fst (own_d p2) (own_pre (own_d p2) q3)) (own_low (own_d p2)) ((own_fst (own_d p2) (own_pre (own_d p2) q3)) ||| (own_low (own_d p2))))), .second, .val (.int (0 : Int32)), .unset] [(.long (own_pre (own_d p2) q3)), (.int (own_d p2)), (.int p1), (.ref b8), (.ref b8)]))
      obtain ⟨_, _, ⟨T10, L10, k10, n10⟩, -, X10, ⟨Lc10, hQ10, l10, y10, z10⟩, st10⟩ := X8.specialBack hx (y := (⟨"com/example/tattle/tattle/antientropy/HashTrees$Node", "<init>", "(IIJ)V"⟩ : MethodName)) rfl hown (mvT hZ (hw _ (List.mem_of_getElem? (i := 9) rfl))) (mvT hZ (hw _ (List.mem_of_getElem? (i := 10) rfl))) (mvT hZ (hw _ (List.mem_of_getElem? (i := 11) rfl))) (by decide) (backOf (W := 1) (rm2 l Z a0 hw [] b8 p1 (own_d p2) (own_pre (own_d p2) q3) h8 n0 Z9 A8 F_partition_b8 F_depth_b8 F_prefix_b8 g_b8) hZ (hw _ (List.mem_of_getElem? (i := 11) rfl)) (hw _ (List.mem_of_getElem? (i := 8) rfl)) (by decide) (by decide)) (g := (mkF m 227 #[.val (.int p1), .val (.int p2), .val (.long q3), .second, .val (.long q4), .second, .val (.int p5), .val (.int (own_d p2)), .val (.int ((4 : Int32) * (own_d p2))), .val (.long (own_pre (own_d p2) q3)), .second, .val (.long (own_low (own_d p2))), .second, .val (.long (own_fst (own_d p2) (own_pre (own_d p2) q3))), .second, .val (.long ((own_fst (own_d p2) (own_pre (own_d p2) q3)) ||| (own_low (own_d p2)))), .second, .val (.int (own_sel p5)), .val (.long (own_pos (own_sel p5) q4 (own_fst (own_d p2) (own_pre (own_d p2) q3)) (own_low (own_d p2)) ((own_fst (own_d p2) (own_pre (own_d p2) q3)) ||| (own_low (own_d p2))))), .second, .val (.int (0 : Int32)), .unset] [(.long (own_pre (own_d p2) q3)), (.int (own_d p2)), (.int p1), (.ref b8), (.ref b8)])) rfl (by rw [hml]; rfl) (Steps.refl _) (a := b8) (argsL := [(.int p1), (.int (own_d p2)), (.long (own_pre (own_d p2) q3))]) (rest := [(.ref b8)]) (lenOf pd__IIJ_V_6 rfl) rfl (by show 2 * 0 + _ ≤ _; exact Nat.le_of_eq rfl) (hb hby at_227) (fun _ _ => ⟨rfl, e8, (by decide : 1 + 0 ≤ _), (by decide : 3 + 0 ≤ _)⟩)
      dsimp only [Pt.U, Pt.locs, Pt.cells, Pt.slots] at X10 l10 y10 z10 st10 hQ10
      simp only [Nat.add_zero, Nat.zero_add, Nat.reduceAdd] at y10 z10
      subst y10 z10
      obtain ⟨rfl, N10q, K10, A10, F10_0, F10_1, F10_2⟩ := hQ10
      have N10 : Fr n0 L10 := by rw [l10]; exact Fr.app N7 N10q
      clear l10
      refine Gd.st (fun _ k => st10.trans k) ?_
      have Z11 : n0 ≤ T10.heap.size := Nat.le_trans Z9 K10.1
      show Gd p.tables e below _ (T10.setTop (mkF m 230 #[.val (.int p1), .val (.int p2), .val (.long q3), .second, .val (.long q4), .second, .val (.int p5), .val (.int (own_d p2)), .val (.int ((4 : Int32) * (own_d p2))), .val (.long (own_pre (own_d p2) q3)), .second, .val (.long (own_low (own_d p2))), .second, .val (.long (own_fst (own_d p2) (own_pre (own_d p2) q3))), .second, .val (.long ((own_fst (own_d p2) (own_pre (own_d p2) q3)) ||| (own_low (own_d p2)))), .second, .val (.int (own_sel p5)), .val (.long (own_pos (own_sel p5) q4 (own_fst (own_d p2) (own_pre (own_d p2) q3)) (own_low (own_d p2)) ((own_fst (own_d p2) (own_pre (own_d p2) q3)) ||| (own_low (own_d p2))))), .second, .val (.int (0 : Int32)), .unset] [(.ref b8)]))
      refine Gd.st (fun _ k => XS.astore X10.here hx rfl (hb hby at_230) rfl rfl (l' := #[.val (.int p1), .val (.int p2), .val (.long q3), .second, .val (.long q4), .second, .val (.int p5), .val (.int (own_d p2)), .val (.int ((4 : Int32) * (own_d p2))), .val (.long (own_pre (own_d p2) q3)), .second, .val (.long (own_low (own_d p2))), .second, .val (.long (own_fst (own_d p2) (own_pre (own_d p2) q3))), .second, .val (.long ((own_fst (own_d p2) (own_pre (own_d p2) q3)) ||| (own_low (own_d p2)))), .second, .val (.int (own_sel p5)), .val (.long (own_pos (own_sel p5) q4 (own_fst (own_d p2) (own_pre (own_d p2) q3)) (own_low (own_d p2)) ((own_fst (own_d p2) (own_pre (own_d p2) q3)) ||| (own_low (own_d p2))))), .second, .val (.int (0 : Int32)), .val (.ref b8)]) rfl k) ?_
      show Gd p.tables e below _ (T10.setTop (mkF m 232 #[.val (.int p1), .val (.int p2), .val (.long q3), .second, .val (.long q4), .second, .val (.int p5), .val (.int (own_d p2)), .val (.int ((4 : Int32) * (own_d p2))), .val (.long (own_pre (own_d p2) q3)), .second, .val (.long (own_low (own_d p2))), .second, .val (.long (own_fst (own_d p2) (own_pre (own_d p2) q3))), .second, .val (.long ((own_fst (own_d p2) (own_pre (own_d p2) q3)) ||| (own_low (own_d p2)))), .second, .val (.int (own_sel p5)), .val (.long (own_pos (own_sel p5) q4 (own_fst (own_d p2) (own_pre (own_d p2) q3)) (own_low (own_d p2)) ((own_fst (own_d p2) (own_pre (own_d p2) q3)) ||| (own_low (own_d p2))))), .second, .val (.int (0 : Int32)), .val (.ref b8)] []))
      refine Gd.st (fun _ k => XS.aload X10.here hx rfl (hb hby at_232) rfl rfl k) ?_
      show Gd p.tables e below _ (T10.setTop (mkF m 234 #[.val (.int p1), .val (.int p2), .val (.long q3), .second, .val (.long q4), .second, .val (.int p5), .val (.int (own_d p2)), .val (.int ((4 : Int32) * (own_d p2))), .val (.long (own_pre (own_d p2) q3)), .second, .val (.long (own_low (own_d p2))), .second, .val (.long (own_fst (own_d p2) (own_pre (own_d p2) q3))), .second, .val (.long ((own_fst (own_d p2) (own_pre (own_d p2) q3)) ||| (own_low (own_d p2)))), .second, .val (.int (own_sel p5)), .val (.long (own_pos (own_sel p5) q4 (own_fst (own_d p2) (own_pre (own_d p2) q3)) (own_low (own_d p2)) ((own_fst (own_d p2) (own_pre (own_d p2) q3)) ||| (own_low (own_d p2))))), .second, .val (.int (0 : Int32)), .val (.ref b8)] [(.ref b8)]))
      refine Gd.st (fun _ k => XS.lload X10.here hx rfl (hb hby at_234) rfl k) ?_
      show Gd p.tables e below _ (T10.setTop (mkF m 236 #[.val (.int p1), .val (.int p2), .val (.long q3), .second, .val (.long q4), .second, .val (.int p5), .val (.int (own_d p2)), .val (.int ((4 : Int32) * (own_d p2))), .val (.long (own_pre (own_d p2) q3)), .second, .val (.long (own_low (own_d p2))), .second, .val (.long (own_fst (own_d p2) (own_pre (own_d p2) q3))), .second, .val (.long ((own_fst (own_d p2) (own_pre (own_d p2) q3)) ||| (own_low (own_d p2)))), .second, .val (.int (own_sel p5)), .val (.long (own_pos (own_sel p5) q4 (own_fst (own_d p2) (own_pre (own_d p2) q3)) (own_low (own_d p2)) ((own_fst (own_d p2) (own_pre (own_d p2) q3)) ||| (own_low (own_d p2))))), .second, .val (.int (0 : Int32)), .val (.ref b8)] [(.long (own_pos (own_sel p5) q4 (own_fst (own_d p2) (own_pre (own_d p2) q3)) (own_low (own_d p2)) ((own_fst (own_d p2) (own_pre (own_d p2) q3)) ||| (own_low (own_d p2))))), (.ref b8)]))
      obtain ⟨cq12, kq12, q12a, q12b, q12c⟩ := isOf hZ rfl A10
      obtain ⟨_, _, ⟨T12, L12, k12, n12⟩, -, X12, ⟨Lc12, hQ12, l12, y12, z12⟩, st12⟩ := X10.virtualBack hx (y := (⟨"com/example/tattle/tattle/antientropy/HashTrees$Node", "covers", "(J)Z"⟩ : MethodName)) (z := (⟨"com/example/tattle/tattle/antientropy/HashTrees$Node", "covers", "(J)Z"⟩ : MethodName)) hown (mvT hZ (hw _ (List.mem_of_getElem? (i := 26) rfl))) (mvT hZ (hw _ (List.mem_of_getElem? (i := 27) rfl))) (notFace_of_selects (args := #[]) (mvT hZ (hw _ (List.mem_of_getElem? (i := 29) rfl)))) (mvT hZ (hw _ (List.mem_of_getElem? (i := 29) rfl))) (mvT hZ (hw _ (List.mem_of_getElem? (i := 28) rfl))) (by decide) (backOf (W := 0) (rm5 l Z a0 hw [] b8 (own_pos (own_sel p5) q4 (own_fst (own_d p2) (own_pre (own_d p2) q3)) (own_low (own_d p2)) ((own_fst (own_d p2) (own_pre (own_d p2) q3)) ||| (own_low (own_d p2)))) (own_d p2) (own_pre (own_d p2) q3) T10.heap n0 Z11 F10_1 F10_2) hZ (hw _ (List.mem_of_getElem? (i := 30) rfl)) (hw _ (List.mem_of_getElem? (i := 8) rfl)) (by decide) (by decide)) q12a q12c (g := (mkF m 236 #[.val (.int p1), .val (.int p2), .val (.long q3), .second, .val (.long q4), .second, .val (.int p5), .val (.int (own_d p2)), .val (.int ((4 : Int32) * (own_d p2))), .val (.long (own_pre (own_d p2) q3)), .second, .val (.long (own_low (own_d p2))), .second, .val (.long (own_fst (own_d p2) (own_pre (own_d p2) q3))), .second, .val (.long ((own_fst (own_d p2) (own_pre (own_d p2) q3)) ||| (own_low (own_d p2)))), .second, .val (.int (own_sel p5)), .val (.long (own_pos (own_sel p5) q4 (own_fst (own_d p2) (own_pre (own_d p2) q3)) (own_low (own_d p2)) ((own_fst (own_d p2) (own_pre (own_d p2) q3)) ||| (own_low (own_d p2))))), .second, .val (.int (0 : Int32)), .val (.ref b8)] [(.long (own_pos (own_sel p5) q4 (own_fst (own_d p2) (own_pre (own_d p2) q3)) (own_low (own_d p2)) ((own_fst (own_d p2) (own_pre (own_d p2) q3)) ||| (own_low (own_d p2))))), (.ref b8)])) rfl (by rw [hml]; rfl) (Steps.refl _) (argsL := [(.long (own_pos (own_sel p5) q4 (own_fst (own_d p2) (own_pre (own_d p2) q3)) (own_low (own_d p2)) ((own_fst (own_d p2) (own_pre (own_d p2) q3)) ||| (own_low (own_d p2)))))]) (rest := []) (lenOf pd__J_Z_4 rfl) rfl (by show 2 * 0 + _ ≤ _; exact Nat.le_of_eq rfl) (hb hby at_236) (fun _ _ => ⟨rfl, rfl, (by decide : 1 + 0 ≤ _), (by decide : 3 + 0 ≤ _)⟩)
      dsimp only [Pt.U, Pt.locs, Pt.cells, Pt.slots] at X12 l12 y12 z12 st12 hQ12
      simp only [Nat.add_zero, Nat.zero_add, Nat.reduceAdd] at y12 z12
      subst y12 z12
      obtain ⟨rfl, N12q, eh12⟩ := hQ12
      have N12 : Fr n0 L12 := by rw [l12]; exact Fr.app N10 N12q
      clear l12
      refine Gd.st (fun _ k => st12.trans k) ?_
      have e12 : T12.heap = T10.heap := eh12
      show Gd p.tables e below _ (T12.setTop (mkF m 239 #[.val (.int p1), .val (.int p2), .val (.long q3), .second, .val (.long q4), .second, .val (.int p5), .val (.int (own_d p2)), .val (.int ((4 : Int32) * (own_d p2))), .val (.long (own_pre (own_d p2) q3)), .second, .val (.long (own_low (own_d p2))), .second, .val (.long (own_fst (own_d p2) (own_pre (own_d p2) q3))), .second, .val (.long ((own_fst (own_d p2) (own_pre (own_d p2) q3)) ||| (own_low (own_d p2)))), .second, .val (.int (own_sel p5)), .val (.long (own_pos (own_sel p5) q4 (own_fst (own_d p2) (own_pre (own_d p2) q3)) (own_low (own_d p2)) ((own_fst (own_d p2) (own_pre (own_d p2) q3)) ||| (own_low (own_d p2))))), .second, .val (.int (0 : Int32)), .val (.ref b8)] [(.int (own_cov (own_d p2) (own_pre (own_d p2) q3) (own_pos (own_sel p5) q4 (own_fst (own_d p2) (own_pre (own_d p2) q3)) (own_low (own_d p2)) ((own_fst (own_d p2) (own_pre (own_d p2) q3)) ||| (own_low (own_d p2))))))]))
      refine Gd.st (fun _ k => XS.iload X12.here hx rfl (hb hby at_239) rfl k) ?_
      show Gd p.tables e below _ (T12.setTop (mkF m 241 #[.val (.int p1), .val (.int p2), .val (.long q3), .second, .val (.long q4), .second, .val (.int p5), .val (.int (own_d p2)), .val (.int ((4 : Int32) * (own_d p2))), .val (.long (own_pre (own_d p2) q3)), .second, .val (.long (own_low (own_d p2))), .second, .val (.long (own_fst (own_d p2) (own_pre (own_d p2) q3))), .second, .val (.long ((own_fst (own_d p2) (own_pre (own_d p2) q3)) ||| (own_low (own_d p2)))), .second, .val (.int (own_sel p5)), .val (.long (own_pos (own_sel p5) q4 (own_fst (own_d p2) (own_pre (own_d p2) q3)) (own_low (own_d p2)) ((own_fst (own_d p2) (own_pre (own_d p2) q3)) ||| (own_low (own_d p2))))), .second, .val (.int (0 : Int32)), .val (.ref b8)] [(.int (0 : Int32)), (.int (own_cov (own_d p2) (own_pre (own_d p2) q3) (own_pos (own_sel p5) q4 (own_fst (own_d p2) (own_pre (own_d p2) q3)) (own_low (own_d p2)) ((own_fst (own_d p2) (own_pre (own_d p2) q3)) ||| (own_low (own_d p2))))))]))
      refine Gd.st (fun _ k => XS.icmpNo X12.here hx rfl (hb hby at_241) rfl (teq (by rw [own_iff]; simp [hc198, hc208])).2 k) ?_
      show Gd p.tables e below _ (T12.setTop (mkF m 244 #[.val (.int p1), .val (.int p2), .val (.long q3), .second, .val (.long q4), .second, .val (.int p5), .val (.int (own_d p2)), .val (.int ((4 : Int32) * (own_d p2))), .val (.long (own_pre (own_d p2) q3)), .second, .val (.long (own_low (own_d p2))), .second, .val (.long (own_fst (own_d p2) (own_pre (own_d p2) q3))), .second, .val (.long ((own_fst (own_d p2) (own_pre (own_d p2) q3)) ||| (own_low (own_d p2)))), .second, .val (.int (own_sel p5)), .val (.long (own_pos (own_sel p5) q4 (own_fst (own_d p2) (own_pre (own_d p2) q3)) (own_low (own_d p2)) ((own_fst (own_d p2) (own_pre (own_d p2) q3)) ||| (own_low (own_d p2))))), .second, .val (.int (0 : Int32)), .val (.ref b8)] []))
      refine Gd.st (fun _ k => XS.iconst X12.here hx rfl (hb hby at_244) k) ?_
      show Gd p.tables e below _ (T12.setTop (mkF m 245 #[.val (.int p1), .val (.int p2), .val (.long q3), .second, .val (.long q4), .second, .val (.int p5), .val (.int (own_d p2)), .val (.int ((4 : Int32) * (own_d p2))), .val (.long (own_pre (own_d p2) q3)), .second, .val (.long (own_low (own_d p2))), .second, .val (.long (own_fst (own_d p2) (own_pre (own_d p2) q3))), .second, .val (.long ((own_fst (own_d p2) (own_pre (own_d p2) q3)) ||| (own_low (own_d p2)))), .second, .val (.int (own_sel p5)), .val (.long (own_pos (own_sel p5) q4 (own_fst (own_d p2) (own_pre (own_d p2) q3)) (own_low (own_d p2)) ((own_fst (own_d p2) (own_pre (own_d p2) q3)) ||| (own_low (own_d p2))))), .second, .val (.int (0 : Int32)), .val (.ref b8)] [(.int (1 : Int32))]))
      refine Gd.st (fun _ k => XS.goto X12.here hx rfl (pc0 := 245) (pc' := 249) rfl (hb hby at_245) (by decide) (by decide) k) ?_
      show Gd p.tables e below _ (T12.setTop (mkF m 249 #[.val (.int p1), .val (.int p2), .val (.long q3), .second, .val (.long q4), .second, .val (.int p5), .val (.int (own_d p2)), .val (.int ((4 : Int32) * (own_d p2))), .val (.long (own_pre (own_d p2) q3)), .second, .val (.long (own_low (own_d p2))), .second, .val (.long (own_fst (own_d p2) (own_pre (own_d p2) q3))), .second, .val (.long ((own_fst (own_d p2) (own_pre (own_d p2) q3)) ||| (own_low (own_d p2)))), .second, .val (.int (own_sel p5)), .val (.long (own_pos (own_sel p5) q4 (own_fst (own_d p2) (own_pre (own_d p2) q3)) (own_low (own_d p2)) ((own_fst (own_d p2) (own_pre (own_d p2) q3)) ||| (own_low (own_d p2))))), .second, .val (.int (0 : Int32)), .val (.ref b8)] [(.int (1 : Int32))]))
      obtain ⟨fs, hr, hrun, hended, hW, hsame⟩ := X12.leave (v := some (.int (1 : Int32))) (fun h => by rw [Bd.returns] at h; cases h) Bd.notSynchronized
      refine Gd.mk (o := .returned (some (.int (1 : Int32)))) (retN X12 hx (t := .boolean) Bd.returns (by simp) (hb hby at_249) hr) ⟨hrun, hended, _, _, rfl, ?_, ⟨_, rfl⟩, hW, hsame.mono (by decide) (by decide)⟩
      show Q0 Z p1 p2 q3 q4 p5 h0 n0 _ T12.heap _
      rw [e12]
      exact ⟨rfl, N12⟩
    · skip
      refine Gd.st (fun _ k => XS.ifNo X7.here hx rfl (hb hby at_208) rfl ((if0 _ _).trans (feq hc208).1) k) ?_
      show Gd p.tables e below _ (T7.setTop (mkF m 211 #[.val (.int p1), .val (.int p2), .val (.long q3), .second, .val (.long q4), .second, .val (.int p5), .val (.int (own_d p2)), .val (.int ((4 : Int32) * (own_d p2))), .val (.long (own_pre (own_d p2) q3)), .second, .val (.long (own_low (own_d p2))), .second, .val (.long (own_fst (own_d p2) (own_pre (own_d p2) q3))), .second, .val (.long ((own_fst (own_d p2) (own_pre (own_d p2) q3)) ||| (own_low (own_d p2)))), .second, .val (.int (own_sel p5)), .val (.long (own_pos (own_sel p5) q4 (own_fst (own_d p2) (own_pre (own_d p2) q3)) (own_low (own_d p2)) ((own_fst (own_d p2) (own_pre (own_d p2) q3)) ||| (own_low (own_d p2))))), .second, .unset, .unset] []))
      refine Gd.st (fun _ k => XS.iconst X7.here hx rfl (hb hby at_211) k) ?_
      show Gd p.tables e below _ (T7.setTop (mkF m 212 #[.val (.int p1), .val (.int p2), .val (.long q3), .second, .val (.long q4), .second, .val (.int p5), .val (.int (own_d p2)), .val (.int ((4 : Int32) * (own_d p2))), .val (.long (own_pre (own_d p2) q3)), .second, .val (.long (own_low (own_d p2))), .second, .val (.long (own_fst (own_d p2) (own_pre (own_d p2) q3))), .second, .val (.long ((own_fst (own_d p2) (own_pre (own_d p2) q3)) ||| (own_low (own_d p2)))), .second, .val (.int (own_sel p5)), .val (.long (own_pos (own_sel p5) q4 (own_fst (own_d p2) (own_pre (own_d p2) q3)) (own_low (own_d p2)) ((own_fst (own_d p2) (own_pre (own_d p2) q3)) ||| (own_low (own_d p2))))), .second, .unset, .unset] [(.int (1 : Int32))]))
      refine Gd.st (fun _ k => XS.goto X7.here hx rfl (pc0 := 212) (pc' := 216) rfl (hb hby at_212) (by decide) (by decide) k) ?_
      show Gd p.tables e below _ (T7.setTop (mkF m 216 #[.val (.int p1), .val (.int p2), .val (.long q3), .second, .val (.long q4), .second, .val (.int p5), .val (.int (own_d p2)), .val (.int ((4 : Int32) * (own_d p2))), .val (.long (own_pre (own_d p2) q3)), .second, .val (.long (own_low (own_d p2))), .second, .val (.long (own_fst (own_d p2) (own_pre (own_d p2) q3))), .second, .val (.long ((own_fst (own_d p2) (own_pre (own_d p2) q3)) ||| (own_low (own_d p2)))), .second, .val (.int (own_sel p5)), .val (.long (own_pos (own_sel p5) q4 (own_fst (own_d p2) (own_pre (own_d p2) q3)) (own_low (own_d p2)) ((own_fst (own_d p2) (own_pre (own_d p2) q3)) ||| (own_low (own_d p2))))), .second, .unset, .unset] [(.int (1 : Int32))]))
      refine Gd.st (fun _ k => XS.istore X7.here hx rfl (hb hby at_216) rfl (l' := #[.val (.int p1), .val (.int p2), .val (.long q3), .second, .val (.long q4), .second, .val (.int p5), .val (.int (own_d p2)), .val (.int ((4 : Int32) * (own_d p2))), .val (.long (own_pre (own_d p2) q3)), .second, .val (.long (own_low (own_d p2))), .second, .val (.long (own_fst (own_d p2) (own_pre (own_d p2) q3))), .second, .val (.long ((own_fst (own_d p2) (own_pre (own_d p2) q3)) ||| (own_low (own_d p2)))), .second, .val (.int (own_sel p5)), .val (.long (own_pos (own_sel p5) q4 (own_fst (own_d p2) (own_pre (own_d p2) q3)) (own_low (own_d p2)) ((own_fst (own_d p2) (own_pre (own_d p2) q3)) ||| (own_low (own_d p2))))), .second, .val (.int (1 : Int32)), .unset]) rfl k) ?_
      show Gd p.tables e below _ (T7.setTop (mkF m 218 #[.val (.int p1), .val (.int p2), .val (.long q3), .second, .val (.long q4), .second, .val (.int p5), .val (.int (own_d p2)), .val (.int ((4 : Int32) * (own_d p2))), .val (.long (own_pre (own_d p2) q3)), .second, .val (.long (own_low (own_d p2))), .second, .val (.long (own_fst (own_d p2) (own_pre (own_d p2) q3))), .second, .val (.long ((own_fst (own_d p2) (own_pre (own_d p2) q3)) ||| (own_low (own_d p2)))), .second, .val (.int (own_sel p5)), .val (.long (own_pos (own_sel p5) q4 (own_fst (own_d p2) (own_pre (own_d p2) q3)) (own_low (own_d p2)) ((own_fst (own_d p2) (own_pre (own_d p2) q3)) ||| (own_low (own_d p2))))), .second, .val (.int (1 : Int32)), .unset] []))
      obtain ⟨T13, h13, X13, e13, E13, A13, D13, -, st13⟩ := newO X7 hx hZ hown (hw _ (List.mem_of_getElem? (i := 6) rfl)) (hw _ (List.mem_of_getElem? (i := 7) rfl)) (hw _ (List.mem_of_getElem? (i := 8) rfl)) e7 (g := (mkF m 218 #[.val (.int p1), .val (.int p2), .val (.long q3), .second, .val (.long q4), .second, .val (.int p5), .val (.int (own_d p2)), .val (.int ((4 : Int32) * (own_d p2))), .val (.long (own_pre (own_d p2) q3)), .second, .val (.long (own_low (own_d p2))), .second, .val (.long (own_fst (own_d p2) (own_pre (own_d p2) q3))), .second, .val (.long ((own_fst (own_d p2) (own_pre (own_d p2) q3)) ||| (own_low (own_d p2)))), .second, .val (.int (own_sel p5)), .val (.long (own_pos (own_sel p5) q4 (own_fst (own_d p2) (own_pre (own_d p2) q3)) (own_low (own_d p2)) ((own_fst (own_d p2) (own_pre (own_d p2) q3)) ||| (own_low (own_d p2))))), .second, .val (.int (1 : Int32)), .unset] [])) rfl (hb hby at_218) (by decide) (by decide)
      obtain ⟨b13, g13⟩ : ∃ z, z = h0.size := ⟨_, rfl⟩
      rw [← g13] at A13 D13 st13
      refine Gd.st st13 ?_
      have g_b13 : n0 ≤ b13 := Nat.le_trans Z0 (Nat.le_of_eq g13.symm)
      have Z14 : n0 ≤ h13.size := Nat.le_trans Z0 E13.1
      have F_partition_b13 : Fld Z h13 b13 "com/example/tattle/tattle/antientropy/HashTrees$Node" "partition" "I" (.int (0 : Int32)) := D13 (Or.inr (hw _ (List.mem_of_getElem? (i := 21) rfl))) (ty := .int) (by decide)
      have F_depth_b13 : Fld Z h13 b13 "com/example/tattle/tattle/antientropy/HashTrees$Node" "depth" "I" (.int (0 : Int32)) := D13 (Or.inr (hw _ (List.mem_of_getElem? (i := 23) rfl))) (ty := .int) (by decide)
      have F_prefix_b13 : Fld Z h13 b13 "com/example/tattle/tattle/antientropy/HashTrees$Node" "prefix" "J" (.long (0 : Int64)) := D13 (Or.inr (hw _ (List.mem_of_getElem? (i := 25) rfl))) (ty := .long) (by decide)
      show Gd p.tables e below _ (T13.setTop (mkF m 221 #[.val (.int p1), .val (.int p2), .val (.long q3), .second, .val (.long q4), .second, .val (.int p5), .val (.int (own_d p2)), .val (.int ((4 : Int32) * (own_d p2))), .val (.long (own_pre (own_d p2) q3)), .second, .val (.long (own_low (own_d p2))), .second, .val (.long (own_fst (own_d p2) (own_pre (own_d p2) q3))), .second, .val (.long ((own_fst (own_d p2) (own_pre (own_d p2) q3)) ||| (own_low (own_d p2)))), .second, .val (.int (own_sel p5)), .val (.long (own_pos (own_sel p5) q4 (own_fst (own_d p2) (own_pre (own_d p2) q3)) (own_low (own_d p2)) ((own_fst (own_d p2) (own_pre (own_d p2) q3)) ||| (own_low (own_d p2))))), .second, .val (.int (1 : Int32)), .unset] [(.ref b13)]))
      refine Gd.st (fun _ k => XS.dup X13.here hx rfl (hb hby at_221) rfl rfl k) ?_
      show Gd p.tables e below _ (T13.setTop (mkF m 222 #[.val (.int p1), .val (.int p2), .val (.long q3), .second, .val (.long q4), .second, .val (.int p5), .val (.int (own_d p2)), .val (.int ((4 : Int32) * (own_d p2))), .val (.long (own_pre (own_d p2) q3)), .second, .val (.long (own_low (own_d p2))), .second, .val (.long (own_fst (own_d p2) (own_pre (own_d p2) q3))), .second, .val (.long ((own_fst (own_d p2) (own_pre (own_d p2) q3)) ||| (own_low (own_d p2)))), .second, .val (.int (own_sel p5)), .val (.long (own_pos (own_sel p5) q4 (own_fst (own_d p2) (own_pre (own_d p2) q3)) (own_low (own_d p2)) ((own_fst (own_d p2) (own_pre (own_d p2) q3)) ||| (own_low (own_d p2))))), .second, .val (.int (1 : Int32)), .unset] [(.ref b13), (.ref b13)]))
      refine Gd.st (fun _ k => XS.iloadN X13.here hx rfl (hb hby at_222) rfl k) ?_
      show Gd p.tables e below _ (T13.setTop (mkF m 223 #[.val (.int p1), .val (.int p2), .val (.long q3), .second, .val (.long q4), .second, .val (.int p5), .val (.int (own_d p2)), .val (.int ((4 : Int32) * (own_d p2))), .val (.long (own_pre (own_d p2) q3)), .second, .val (.long (own_low (own_d p2))), .second, .val (.long (own_fst (own_d p2) (own_pre (own_d p2) q3))), .second, .val (.long ((own_fst (own_d p2) (own_pre (own_d p2) q3)) ||| (own_low (own_d p2)))), .second, .val (.int (own_sel p5)), .val (.long (own_pos (own_sel p5) q4 (own_fst (own_d p2) (own_pre (own_d p2) q3)) (own_low (own_d p2)) ((own_fst (own_d p2) (own_pre (own_d p2) q3)) ||| (own_low (own_d p2))))), .second, .val (.int (1 : Int32)), .unset] [(.int p1), (.ref b13), (.ref b13)]))
      refine Gd.st (fun _ k => XS.iload X13.here hx rfl (hb hby at_223) rfl k) ?_
      show Gd p.tables e below _ (T13.setTop (mkF m 225 #[.val (.int p1), .val (.int p2), .val (.long q3), .second, .val (.long q4), .second, .val (.int p5), .val (.int (own_d p2)), .val (.int ((4 : Int32) * (own_d p2))), .val (.long (own_pre (own_d p2) q3)), .second, .val (.long (own_low (own_d p2))), .second, .val (.long (own_fst (own_d p2) (own_pre (own_d p2) q3))), .second, .val (.long ((own_fst (own_d p2) (own_pre (own_d p2) q3)) ||| (own_low (own_d p2)))), .second, .val (.int (own_sel p5)), .val (.long (own_pos (own_sel p5) q4 (own_fst (own_d p2) (own_pre (own_d p2) q3)) (own_low (own_d p2)) ((own_fst (own_d p2) (own_pre (own_d p2) q3)) ||| (own_low (own_d p2))))), .second, .val (.int (1 : Int32)), .unset] [(.int (own_d p2)), (.int p1), (.ref b13), (.ref b13)]))
      refine Gd.st (fun _ k => XS.lload X13.here hx rfl (hb hby at_225) rfl k) ?_
      show Gd p.tables e below _ (T13.setTop (mkF m 227 #[.val (.int p1), .val (.int p2), .val (.long q3), .second, .val (.long q4), .second, .val (.int p5), .val (.int (own_d p2)), .val (.int ((4 : Int32) * (own_d p2))), .val (.long (own_pre (own_d p2) q3)), .second, .val (.long (own_low (own_d p2))), .second, .val (.long (own_fst (own_d p2) (own_pre (own_d p2) q3))), .second, .val (.long ((own_fst (own_d p2) (own_pre (own_d p2) q3)) ||| (own_low (own_d p2)))), .second, .val (.int (own_sel p5)), .val (.long (own_pos (own_sel p5) q4 (own_fst (own_d p2) (own_pre (own_d p2) q3)) (own_low (own_d p2)) ((own_fst (own_d p2) (own_pre (own_d p2) q3)) ||| (own_low (own_d p2))))), .second, .val (.int (1 : Int32)), .unset] [(.long (own_pre (own_d p2) q3)), (.int (own_d p2)), (.int p1), (.ref b13), (.ref b13)]))
      obtain ⟨_, _, ⟨T15, L15, k15, n15⟩, -, X15, ⟨Lc15, hQ15, l15, y15, z15⟩, st15⟩ := X13.specialBack hx (y := (⟨"com/example/tattle/tattle/antientropy/HashTrees$Node", "<init>", "(IIJ)V"⟩ : MethodName)) rfl hown (mvT hZ (hw _ (List.mem_of_getElem? (i := 9) rfl))) (mvT hZ (hw _ (List.mem_of_getElem? (i := 10) rfl))) (mvT hZ (hw _ (List.mem_of_getElem? (i := 11) rfl))) (by decide) (backOf (W := 1) (rm2 l Z a0 hw [] b13 p1 (own_d p2) (own_pre (own_d p2) q3) h13 n0 Z14 A13 F_partition_b13 F_depth_b13 F_prefix_b13 g_b13) hZ (hw _ (List.mem_of_getElem? (i := 11) rfl)) (hw _ (List.mem_of_getElem? (i := 8) rfl)) (by decide) (by decide)) (g := (mkF m 227 #[.val (.int p1), .val (.int p2), .val (.long q3), .second, .val (.long q4), .second, .val (.int p5), .val (.int (own_d p2)), .val (.int ((4 : Int32) * (own_d p2))), .val (.long (own_pre (own_d p2) q3)), .second, .val (.long (own_low (own_d p2))), .second, .val (.long (own_fst (own_d p2) (own_pre (own_d p2) q3))), .second, .val (.long ((own_fst (own_d p2) (own_pre (own_d p2) q3)) ||| (own_low (own_d p2)))), .second, .val (.int (own_sel p5)), .val (.long (own_pos (own_sel p5) q4 (own_fst (own_d p2) (own_pre (own_d p2) q3)) (own_low (own_d p2)) ((own_fst (own_d p2) (own_pre (own_d p2) q3)) ||| (own_low (own_d p2))))), .second, .val (.int (1 : Int32)), .unset] [(.long (own_pre (own_d p2) q3)), (.int (own_d p2)), (.int p1), (.ref b13), (.ref b13)])) rfl (by rw [hml]; rfl) (Steps.refl _) (a := b13) (argsL := [(.int p1), (.int (own_d p2)), (.long (own_pre (own_d p2) q3))]) (rest := [(.ref b13)]) (lenOf pd__IIJ_V_6 rfl) rfl (by show 2 * 0 + _ ≤ _; exact Nat.le_of_eq rfl) (hb hby at_227) (fun _ _ => ⟨rfl, e13, (by decide : 1 + 0 ≤ _), (by decide : 3 + 0 ≤ _)⟩)
      dsimp only [Pt.U, Pt.locs, Pt.cells, Pt.slots] at X15 l15 y15 z15 st15 hQ15
      simp only [Nat.add_zero, Nat.zero_add, Nat.reduceAdd] at y15 z15
      subst y15 z15
      obtain ⟨rfl, N15q, K15, A15, F15_0, F15_1, F15_2⟩ := hQ15
      have N15 : Fr n0 L15 := by rw [l15]; exact Fr.app N7 N15q
      clear l15
      refine Gd.st (fun _ k => st15.trans k) ?_
      have Z16 : n0 ≤ T15.heap.size := Nat.le_trans Z14 K15.1
      show Gd p.tables e below _ (T15.setTop (mkF m 230 #[.val (.int p1), .val (.int p2), .val (.long q3), .second, .val (.long q4), .second, .val (.int p5), .val (.int (own_d p2)), .val (.int ((4 : Int32) * (own_d p2))), .val (.long (own_pre (own_d p2) q3)), .second, .val (.long (own_low (own_d p2))), .second, .val (.long (own_fst (own_d p2) (own_pre (own_d p2) q3))), .second, .val (.long ((own_fst (own_d p2) (own_pre (own_d p2) q3)) ||| (own_low (own_d p2)))), .second, .val (.int (own_sel p5)), .val (.long (own_pos (own_sel p5) q4 (own_fst (own_d p2) (own_pre (own_d p2) q3)) (own_low (own_d p2)) ((own_fst (own_d p2) (own_pre (own_d p2) q3)) ||| (own_low (own_d p2))))), .second, .val (.int (1 : Int32)), .unset] [(.ref b13)]))
      refine Gd.st (fun _ k => XS.astore X15.here hx rfl (hb hby at_230) rfl rfl (l' := #[.val (.int p1), .val (.int p2), .val (.long q3), .second, .val (.long q4), .second, .val (.int p5), .val (.int (own_d p2)), .val (.int ((4 : Int32) * (own_d p2))), .val (.long (own_pre (own_d p2) q3)), .second, .val (.long (own_low (own_d p2))), .second, .val (.long (own_fst (own_d p2) (own_pre (own_d p2) q3))), .second, .val (.long ((own_fst (own_d p2) (own_pre (own_d p2) q3)) ||| (own_low (own_d p2)))), .second, .val (.int (own_sel p5)), .val (.long (own_pos (own_sel p5) q4 (own_fst (own_d p2) (own_pre (own_d p2) q3)) (own_low (own_d p2)) ((own_fst (own_d p2) (own_pre (own_d p2) q3)) ||| (own_low (own_d p2))))), .second, .val (.int (1 : Int32)), .val (.ref b13)]) rfl k) ?_
      show Gd p.tables e below _ (T15.setTop (mkF m 232 #[.val (.int p1), .val (.int p2), .val (.long q3), .second, .val (.long q4), .second, .val (.int p5), .val (.int (own_d p2)), .val (.int ((4 : Int32) * (own_d p2))), .val (.long (own_pre (own_d p2) q3)), .second, .val (.long (own_low (own_d p2))), .second, .val (.long (own_fst (own_d p2) (own_pre (own_d p2) q3))), .second, .val (.long ((own_fst (own_d p2) (own_pre (own_d p2) q3)) ||| (own_low (own_d p2)))), .second, .val (.int (own_sel p5)), .val (.long (own_pos (own_sel p5) q4 (own_fst (own_d p2) (own_pre (own_d p2) q3)) (own_low (own_d p2)) ((own_fst (own_d p2) (own_pre (own_d p2) q3)) ||| (own_low (own_d p2))))), .second, .val (.int (1 : Int32)), .val (.ref b13)] []))
      refine Gd.st (fun _ k => XS.aload X15.here hx rfl (hb hby at_232) rfl rfl k) ?_
      show Gd p.tables e below _ (T15.setTop (mkF m 234 #[.val (.int p1), .val (.int p2), .val (.long q3), .second, .val (.long q4), .second, .val (.int p5), .val (.int (own_d p2)), .val (.int ((4 : Int32) * (own_d p2))), .val (.long (own_pre (own_d p2) q3)), .second, .val (.long (own_low (own_d p2))), .second, .val (.long (own_fst (own_d p2) (own_pre (own_d p2) q3))), .second, .val (.long ((own_fst (own_d p2) (own_pre (own_d p2) q3)) ||| (own_low (own_d p2)))), .second, .val (.int (own_sel p5)), .val (.long (own_pos (own_sel p5) q4 (own_fst (own_d p2) (own_pre (own_d p2) q3)) (own_low (own_d p2)) ((own_fst (own_d p2) (own_pre (own_d p2) q3)) ||| (own_low (own_d p2))))), .second, .val (.int (1 : Int32)), .val (.ref b13)] [(.ref b13)]))
      refine Gd.st (fun _ k => XS.lload X15.here hx rfl (hb hby at_234) rfl k) ?_
      show Gd p.tables e below _ (T15.setTop (mkF m 236 #[.val (.int p1), .val (.int p2), .val (.long q3), .second, .val (.long q4), .second, .val (.int p5), .val (.int (own_d p2)), .val (.int ((4 : Int32) * (own_d p2))), .val (.long (own_pre (own_d p2) q3)), .second, .val (.long (own_low (own_d p2))), .second, .val (.long (own_fst (own_d p2) (own_pre (own_d p2) q3))), .second, .val (.long ((own_fst (own_d p2) (own_pre (own_d p2) q3)) ||| (own_low (own_d p2)))), .second, .val (.int (own_sel p5)), .val (.long (own_pos (own_sel p5) q4 (own_fst (own_d p2) (own_pre (own_d p2) q3)) (own_low (own_d p2)) ((own_fst (own_d p2) (own_pre (own_d p2) q3)) ||| (own_low (own_d p2))))), .second, .val (.int (1 : Int32)), .val (.ref b13)] [(.long (own_pos (own_sel p5) q4 (own_fst (own_d p2) (own_pre (own_d p2) q3)) (own_low (own_d p2)) ((own_fst (own_d p2) (own_pre (own_d p2) q3)) ||| (own_low (own_d p2))))), (.ref b13)]))
      obtain ⟨cq17, kq17, q17a, q17b, q17c⟩ := isOf hZ rfl A15
      obtain ⟨_, _, ⟨T17, L17, k17, n17⟩, -, X17, ⟨Lc17, hQ17, l17, y17, z17⟩, st17⟩ := X15.virtualBack hx (y := (⟨"com/example/tattle/tattle/antientropy/HashTrees$Node", "covers", "(J)Z"⟩ : MethodName)) (z := (⟨"com/example/tattle/tattle/antientropy/HashTrees$Node", "covers", "(J)Z"⟩ : MethodName)) hown (mvT hZ (hw _ (List.mem_of_getElem? (i := 26) rfl))) (mvT hZ (hw _ (List.mem_of_getElem? (i := 27) rfl))) (notFace_of_selects (args := #[]) (mvT hZ (hw _ (List.mem_of_getElem? (i := 29) rfl)))) (mvT hZ (hw _ (List.mem_of_getElem? (i := 29) rfl))) (mvT hZ (hw _ (List.mem_of_getElem? (i := 28) rfl))) (by decide) (backOf (W := 0) (rm5 l Z a0 hw [] b13 (own_pos (own_sel p5) q4 (own_fst (own_d p2) (own_pre (own_d p2) q3)) (own_low (own_d p2)) ((own_fst (own_d p2) (own_pre (own_d p2) q3)) ||| (own_low (own_d p2)))) (own_d p2) (own_pre (own_d p2) q3) T15.heap n0 Z16 F15_1 F15_2) hZ (hw _ (List.mem_of_getElem? (i := 30) rfl)) (hw _ (List.mem_of_getElem? (i := 8) rfl)) (by decide) (by decide)) q17a q17c (g := (mkF m 236 #[.val (.int p1), .val (.int p2), .val (.long q3), .second, .val (.long q4), .second, .val (.int p5), .val (.int (own_d p2)), .val (.int ((4 : Int32) * (own_d p2))), .val (.long (own_pre (own_d p2) q3)), .second, .val (.long (own_low (own_d p2))), .second, .val (.long (own_fst (own_d p2) (own_pre (own_d p2) q3))), .second, .val (.long ((own_fst (own_d p2) (own_pre (own_d p2) q3)) ||| (own_low (own_d p2)))), .second, .val (.int (own_sel p5)), .val (.long (own_pos (own_sel p5) q4 (own_fst (own_d p2) (own_pre (own_d p2) q3)) (own_low (own_d p2)) ((own_fst (own_d p2) (own_pre (own_d p2) q3)) ||| (own_low (own_d p2))))), .second, .val (.int (1 : Int32)), .val (.ref b13)] [(.long (own_pos (own_sel p5) q4 (own_fst (own_d p2) (own_pre (own_d p2) q3)) (own_low (own_d p2)) ((own_fst (own_d p2) (own_pre (own_d p2) q3)) ||| (own_low (own_d p2))))), (.ref b13)])) rfl (by rw [hml]; rfl) (Steps.refl _) (argsL := [(.long (own_pos (own_sel p5) q4 (own_fst (own_d p2) (own_pre (own_d p2) q3)) (own_low (own_d p2)) ((own_fst (own_d p2) (own_pre (own_d p2) q3)) ||| (own_low (own_d p2)))))]) (rest := []) (lenOf pd__J_Z_4 rfl) rfl (by show 2 * 0 + _ ≤ _; exact Nat.le_of_eq rfl) (hb hby at_236) (fun _ _ => ⟨rfl, rfl, (by decide : 1 + 0 ≤ _), (by decide : 3 + 0 ≤ _)⟩)
      dsimp only [Pt.U, Pt.locs, Pt.cells, Pt.slots] at X17 l17 y17 z17 st17 hQ17
      simp only [Nat.add_zero, Nat.zero_add, Nat.reduceAdd] at y17 z17
      subst y17 z17
      obtain ⟨rfl, N17q, eh17⟩ := hQ17
      have N17 : Fr n0 L17 := by rw [l17]; exact Fr.app N15 N17q
      clear l17
      refine Gd.st (fun _ k => st17.trans k) ?_
      have e17 : T17.heap = T15.heap := eh17
      show Gd p.tables e below _ (T17.setTop (mkF m 239 #[.val (.int p1), .val (.int p2), .val (.long q3), .second, .val (.long q4), .second, .val (.int p5), .val (.int (own_d p2)), .val (.int ((4 : Int32) * (own_d p2))), .val (.long (own_pre (own_d p2) q3)), .second, .val (.long (own_low (own_d p2))), .second, .val (.long (own_fst (own_d p2) (own_pre (own_d p2) q3))), .second, .val (.long ((own_fst (own_d p2) (own_pre (own_d p2) q3)) ||| (own_low (own_d p2)))), .second, .val (.int (own_sel p5)), .val (.long (own_pos (own_sel p5) q4 (own_fst (own_d p2) (own_pre (own_d p2) q3)) (own_low (own_d p2)) ((own_fst (own_d p2) (own_pre (own_d p2) q3)) ||| (own_low (own_d p2))))), .second, .val (.int (1 : Int32)), .val (.ref b13)] [(.int (own_cov (own_d p2) (own_pre (own_d p2) q3) (own_pos (own_sel p5) q4 (own_fst (own_d p2) (own_pre (own_d p2) q3)) (own_low (own_d p2)) ((own_fst (own_d p2) (own_pre (own_d p2) q3)) ||| (own_low (own_d p2))))))]))
      refine Gd.st (fun _ k => XS.iload X17.here hx rfl (hb hby at_239) rfl k) ?_
      show Gd p.tables e below _ (T17.setTop (mkF m 241 #[.val (.int p1), .val (.int p2), .val (.long q3), .second, .val (.long q4), .second, .val (.int p5), .val (.int (own_d p2)), .val (.int ((4 : Int32) * (own_d p2))), .val (.long (own_pre (own_d p2) q3)), .second, .val (.long (own_low (own_d p2))), .second, .val (.long (own_fst (own_d p2) (own_pre (own_d p2) q3))), .second, .val (.long ((own_fst (own_d p2) (own_pre (own_d p2) q3)) ||| (own_low (own_d p2)))), .second, .val (.int (own_sel p5)), .val (.long (own_pos (own_sel p5) q4 (own_fst (own_d p2) (own_pre (own_d p2) q3)) (own_low (own_d p2)) ((own_fst (own_d p2) (own_pre (own_d p2) q3)) ||| (own_low (own_d p2))))), .second, .val (.int (1 : Int32)), .val (.ref b13)] [(.int (1 : Int32)), (.int (own_cov (own_d p2) (own_pre (own_d p2) q3) (own_pos (own_sel p5) q4 (own_fst (own_d p2) (own_pre (own_d p2) q3)) (own_low (own_d p2)) ((own_fst (own_d p2) (own_pre (own_d p2) q3)) ||| (own_low (own_d p2))))))]))
      refine Gd.st (fun _ k => XS.icmpNo X17.here hx rfl (hb hby at_241) rfl (teq (by rw [own_iff]; simp [hc198, hc208])).2 k) ?_
      show Gd p.tables e below _ (T17.setTop (mkF m 244 #[.val (.int p1), .val (.int p2), .val (.long q3), .second, .val (.long q4), .second, .val (.int p5), .val (.int (own_d p2)), .val (.int ((4 : Int32) * (own_d p2))), .val (.long (own_pre (own_d p2) q3)), .second, .val (.long (own_low (own_d p2))), .second, .val (.long (own_fst (own_d p2) (own_pre (own_d p2) q3))), .second, .val (.long ((own_fst (own_d p2) (own_pre (own_d p2) q3)) ||| (own_low (own_d p2)))), .second, .val (.int (own_sel p5)), .val (.long (own_pos (own_sel p5) q4 (own_fst (own_d p2) (own_pre (own_d p2) q3)) (own_low (own_d p2)) ((own_fst (own_d p2) (own_pre (own_d p2) q3)) ||| (own_low (own_d p2))))), .second, .val (.int (1 : Int32)), .val (.ref b13)] []))
      refine Gd.st (fun _ k => XS.iconst X17.here hx rfl (hb hby at_244) k) ?_
      show Gd p.tables e below _ (T17.setTop (mkF m 245 #[.val (.int p1), .val (.int p2), .val (.long q3), .second, .val (.long q4), .second, .val (.int p5), .val (.int (own_d p2)), .val (.int ((4 : Int32) * (own_d p2))), .val (.long (own_pre (own_d p2) q3)), .second, .val (.long (own_low (own_d p2))), .second, .val (.long (own_fst (own_d p2) (own_pre (own_d p2) q3))), .second, .val (.long ((own_fst (own_d p2) (own_pre (own_d p2) q3)) ||| (own_low (own_d p2)))), .second, .val (.int (own_sel p5)), .val (.long (own_pos (own_sel p5) q4 (own_fst (own_d p2) (own_pre (own_d p2) q3)) (own_low (own_d p2)) ((own_fst (own_d p2) (own_pre (own_d p2) q3)) ||| (own_low (own_d p2))))), .second, .val (.int (1 : Int32)), .val (.ref b13)] [(.int (1 : Int32))]))
      refine Gd.st (fun _ k => XS.goto X17.here hx rfl (pc0 := 245) (pc' := 249) rfl (hb hby at_245) (by decide) (by decide) k) ?_
      show Gd p.tables e below _ (T17.setTop (mkF m 249 #[.val (.int p1), .val (.int p2), .val (.long q3), .second, .val (.long q4), .second, .val (.int p5), .val (.int (own_d p2)), .val (.int ((4 : Int32) * (own_d p2))), .val (.long (own_pre (own_d p2) q3)), .second, .val (.long (own_low (own_d p2))), .second, .val (.long (own_fst (own_d p2) (own_pre (own_d p2) q3))), .second, .val (.long ((own_fst (own_d p2) (own_pre (own_d p2) q3)) ||| (own_low (own_d p2)))), .second, .val (.int (own_sel p5)), .val (.long (own_pos (own_sel p5) q4 (own_fst (own_d p2) (own_pre (own_d p2) q3)) (own_low (own_d p2)) ((own_fst (own_d p2) (own_pre (own_d p2) q3)) ||| (own_low (own_d p2))))), .second, .val (.int (1 : Int32)), .val (.ref b13)] [(.int (1 : Int32))]))
      obtain ⟨fs, hr, hrun, hended, hW, hsame⟩ := X17.leave (v := some (.int (1 : Int32))) (fun h => by rw [Bd.returns] at h; cases h) Bd.notSynchronized
      refine Gd.mk (o := .returned (some (.int (1 : Int32)))) (retN X17 hx (t := .boolean) Bd.returns (by simp) (hb hby at_249) hr) ⟨hrun, hended, _, _, rfl, ?_, ⟨_, rfl⟩, hW, hsame.mono (by decide) (by decide)⟩
      show Q0 Z p1 p2 q3 q4 p5 h0 n0 _ T17.heap _
      rw [e17]
      exact ⟨rfl, N17⟩
set_option maxRecDepth 65536 in
set_option maxHeartbeats 40000000 in
theorem comes_1 {Post : Tables → Env → Array Value → State → Outcome → State → Prop} (hpost : ∀ tb e args s v u, (limb_1_1.after args s (.returned v) u = true ∧ limb_1_2.after args s (.returned v) u = true ∧ True) → FrameEnd s (.returned v) u (Jvm.fieldLocs frame_1_writes args s ++ Jvm.arrayLocs frame_1_arrays args s ++ Jvm.staticLocs frame_1_statics s) 16 128 → Post tb e args s (.returned v) u) :
    ArmFor flags0 classFile x code maxLocals ret World_1 tables_1 room_1 Calls_1 rest_1 Pre_1 Post := by
  intro l hfl _ _ p e ha hc hk s m args below hf hA hF happ hP
  obtain ⟨hcalls, hrest, hpre⟩ := hP
  obtain ⟨-, -, -, hnamed, -, -, -, hat⟩ := (Spec.applies_iff hf).mp happ
  obtain ⟨hg, hn⟩ := and_e (Cond.before_iff.mp (show (Jvm.Cond.and given_1 narrow_1).before args s = true from hpre))
  obtain ⟨g1, g2⟩ := and_e hg
  obtain ⟨g3, g4⟩ := and_e g2
  obtain ⟨g5, g6⟩ := and_e g4
  obtain ⟨g7, g8⟩ := and_e g6
  obtain ⟨g9, g10⟩ := and_e g8
  obtain ⟨w0, w1, w2, w3, w4, rfl⟩ : ∃ w0 w1 w2 w3 w4 : Value, args = #[w0, w1, w2, w3, w4] := by
    have hs : args.size = 5 := by simpa [Cond.value, given_1] using g1
    obtain ⟨L⟩ := args
    match L, hs with
    | [w0, w1, w2, w3, w4], _ => exact ⟨w0, w1, w2, w3, w4, rfl⟩
  have hw := fun d (hd : d ∈ tables_1) => atoms_spec (ws := Jvm.Cond.code x code maxLocals ret :: tables_1) hat d (List.mem_cons_of_mem _ hd)
  obtain ⟨i0, ei0⟩ := is_v g3
  obtain rfl : w0 = (.int i0) := Option.some.inj ei0
  obtain ⟨i1, ei1⟩ := is_v g5
  obtain rfl : w1 = (.int i1) := Option.some.inj ei1
  obtain ⟨i2, ei2⟩ := isL_v g7
  obtain rfl : w2 = (.long i2) := Option.some.inj ei2
  obtain ⟨i3, ei3⟩ := isL_v g9
  obtain rfl : w3 = (.long i3) := Option.some.inj ei3
  obtain ⟨i4, ei4⟩ := is_v g10
  obtain rfl : w4 = (.int i4) := Option.some.inj ei4
  obtain ⟨n, o, h1, h2, h3, _, L, rfl, ⟨rfl, N⟩, hq⟩ := rm0 l s _ hw tables_1 i0 i1 i2 i3 i4 s.heap s.heap.size (Nat.le_refl _) p e ha hc hk s m _ below hf ((Spec.applies_iff_loose hf).mp happ).1 ⟨rfl, State.Warmed39.refl s, rfl⟩ trivial
  refine ⟨n, _, h1, h2, h3, hpost _ _ _ _ _ _ ⟨Cond.after_iff.mpr rfl, Cond.after_iff.mpr (eq_i res_at (Term.int_eval (1)) rfl), trivial⟩ ⟨hq.1, hq.2.1, (hq.2.2.sift fun y hy => Or.inr (N y hy)).mono (by decide) (by decide)⟩⟩
theorem main_1_1 : Claimed_1_1 := comes_1 fun _ _ _ _ _ _ h hF => ⟨h.1, hF⟩
theorem main_1_2 : Claimed_1_2 := comes_1 fun _ _ _ _ _ _ h hF => ⟨h.2.1, hF⟩
end Jvm.Pilot.@@N@@
namespace Jvm.Pilot.@@N@@
open Jvm Jvm.ClassFile Sem Op Lib Jvm.Free Jvm.Stand Jvm.Pilot.@@N@@.Jvm.D
/-! MADE BY PROGRAM (witnessworld.py) out of the Statement's table words and the real class files: 10 classes; the members and pool entries that the words name. The judged class is class 1, her method 2. -/
namespace start1
open Jvm.ClassFile
def u (s : String) : CpInfo := .utf8 (stringToUtf16 s)
/-- a pool by its gaps: so many unusable entries, then the entry; so many at the end -/
def gap : Nat → List CpInfo → List CpInfo
  | 0, r => r
  | n + 1, r => .unusable :: gap n r
def poolList (es : List (Nat × CpInfo)) (last : Nat) : List CpInfo := es.foldr (fun e r => gap e.1 (e.2 :: r)) (gap last [])
def pool (es : List (Nat × CpInfo)) (last : Nat) : Array CpInfo := ⟨poolList es last⟩
def fileOf (pool : Array CpInfo) (this : Nat) (attrs : Array Attribute := #[]) (ms : Array MethodInfo := #[]) (fl : Nat := 33) (sup : Nat := 0) (ifs : Array Nat := #[]) (fds : Array FieldInfo := #[]) : ClassFile where
  minorVersion := 0
  majorVersion := 65
  constantPool := pool
  accessFlags := fl
  thisClass := this
  superClass := sup
  interfaces := ifs
  fields := fds
  methods := ms
  attributes := attrs
def plain (name : String) (sup : Option ClassId) : Class where
  name := name
  kind := .ordinary
  loader := none
  accessFlags := 33
  super := sup
  interfaces := #[]
  cf := none
  fields := #[]
  methods := #[]
  instanceTypes := #[]
  staticTypes := #[]
  resolved := #[]
  callSites := []
  init := .initialized
  statics := none
  mirror := none

def pool0 : Array CpInfo := pool [(5, u "<init>"), (0, u "()V"), (1, .class_ 10), (1, u "java/lang/Object")] 113

def k0c0 : Code := { maxStack := 0, maxLocals := 1, code := object_method_1_code, exceptionTable := #[], attributes := #[] }
def k0m0 : Method := { name := "<init>", desc := "()V", sig := { parameters := [], returnType := none }, accessFlags := 1, code := some k0c0 }
/-- java/lang/Object -/
def k0 : Class := { plain "java/lang/Object" none with
  accessFlags := 33
  interfaces := #[]
  cf := some (fileOf pool0 8 #[] #[{ accessFlags := 1, nameIndex := 5, descriptorIndex := 6, attributes := #[] }] 33 0 #[] #[])
  fields := #[]
  methods := #[k0m0]
  instanceTypes := #[]
  staticTypes := #[]
  resolved := Array.replicate 124 none
  statics := none }

def pool1 : Array CpInfo := pool [(2, .class_ 4), (1, u "java/lang/Object"), (0, u "<init>"), (0, u "()V"), (2, .long 9223372036854775808), (1, .integer 2147483647), (0, .long 18446744073709551615), (1, .methodref 15 16), (0, .class_ 17), (0, .nameAndType 18 19), (0, u "com/example/tattle/tattle/antientropy/HashTreesCoversPinLaw"), (0, u "unsignedLessOrEqual"), (0, u "(JJ)Z"), (0, .class_ 21), (0, u "com/example/tattle/tattle/antientropy/HashTrees$Node"), (0, .methodref 20 23), (0, .nameAndType 5 24), (0, u "(IIJ)V"), (0, .methodref 20 26), (0, .nameAndType 27 28), (0, u "covers"), (0, u "(J)Z"), (3, u "law"), (0, u "(IIJJI)Z")] 6

def k1m0 : Method := { name := "<init>", desc := "()V", sig := { parameters := [], returnType := none }, accessFlags := 2, code := none }
def k1c1 : Code := { maxStack := 6, maxLocals := 4, code := method_2_code, exceptionTable := #[], attributes := #[] }
def k1m1 : Method := { name := "unsignedLessOrEqual", desc := "(JJ)Z", sig := { parameters := [.long, .long], returnType := some .boolean }, accessFlags := 10, code := some k1c1 }
def k1c2 : Code := { maxStack := 6, maxLocals := 22, code := code, exceptionTable := #[], attributes := #[] }
def k1m2 : Method := { name := "law", desc := "(IIJJI)Z", sig := { parameters := [.int, .int, .long, .long, .int], returnType := some .boolean }, accessFlags := 9, code := some k1c2 }
/-- com/example/tattle/tattle/antientropy/HashTreesCoversPinLaw -/
def k1 : Class := { plain "com/example/tattle/tattle/antientropy/HashTreesCoversPinLaw" (some 0) with
  accessFlags := 49
  interfaces := #[]
  cf := some (fileOf pool1 15 #[] #[{ accessFlags := 2, nameIndex := 5, descriptorIndex := 6, attributes := #[] }, { accessFlags := 10, nameIndex := 18, descriptorIndex := 19, attributes := #[] }, { accessFlags := 9, nameIndex := 32, descriptorIndex := 33, attributes := #[] }] 49 2 #[] #[])
  fields := #[]
  methods := #[k1m0, k1m1, k1m2]
  instanceTypes := #[]
  staticTypes := #[]
  resolved := Array.replicate 40 none
  statics := none }

def pool2 : Array CpInfo := pool [(1, .methodref 2 3), (0, .class_ 4), (0, .nameAndType 5 6), (0, u "java/lang/Object"), (0, u "<init>"), (0, u "()V"), (0, .class_ 8), (0, u "java/lang/Record")] 13

def k2c0 : Code := { maxStack := 1, maxLocals := 1, code := jdk_30_method_1_code, exceptionTable := #[], attributes := #[] }
def k2m0 : Method := { name := "<init>", desc := "()V", sig := { parameters := [], returnType := none }, accessFlags := 4, code := some k2c0 }
/-- java/lang/Record -/
def k2 : Class := { plain "java/lang/Record" (some 0) with
  accessFlags := 1057
  interfaces := #[]
  cf := some (fileOf pool2 7 #[] #[{ accessFlags := 4, nameIndex := 5, descriptorIndex := 6, attributes := #[] }] 1057 2 #[] #[])
  fields := #[]
  methods := #[k2m0]
  instanceTypes := #[]
  staticTypes := #[]
  resolved := Array.replicate 22 none
  statics := none }

def pool3 : Array CpInfo := pool [(1, .class_ 2), (0, u "com/example/tattle/tattle/antientropy/HashTrees"), (0, .methodref 4 5), (0, .class_ 6), (0, .nameAndType 7 8), (0, u "java/lang/Record"), (0, u "<init>"), (0, u "()V"), (0, .fieldref 10 11), (0, .class_ 12), (0, .nameAndType 13 14), (0, u "com/example/tattle/tattle/antientropy/HashTrees$Node"), (0, u "partition"), (0, u "I"), (0, .fieldref 10 16), (0, .nameAndType 17 14), (0, u "depth"), (0, .fieldref 10 19), (0, .nameAndType 20 21), (0, u "prefix"), (0, u "J"), (2, u "(IIJ)V"), (55, u "covers"), (0, u "(J)Z")] 43

def k3c0 : Code := { maxStack := 3, maxLocals := 5, code := prog_9_method_1_code, exceptionTable := #[], attributes := #[] }
def k3m0 : Method := { name := "<init>", desc := "(IIJ)V", sig := { parameters := [.int, .int, .long], returnType := none }, accessFlags := 0, code := some k3c0 }
def k3c1 : Code := { maxStack := 5, maxLocals := 3, code := prog_9_method_4_code, exceptionTable := #[], attributes := #[] }
def k3m1 : Method := { name := "covers", desc := "(J)Z", sig := { parameters := [.long], returnType := some .boolean }, accessFlags := 0, code := some k3c1 }
/-- com/example/tattle/tattle/antientropy/HashTrees$Node -/
def k3 : Class := { plain "com/example/tattle/tattle/antientropy/HashTrees$Node" (some 2) with
  accessFlags := 48
  interfaces := #[]
  cf := some (fileOf pool3 10 #[.nestHost 1] #[{ accessFlags := 0, nameIndex := 7, descriptorIndex := 24, attributes := #[] }, { accessFlags := 0, nameIndex := 80, descriptorIndex := 81, attributes := #[] }] 48 4 #[] #[{ accessFlags := 18, nameIndex := 13, descriptorIndex := 14, attributes := #[] }, { accessFlags := 18, nameIndex := 17, descriptorIndex := 14, attributes := #[] }, { accessFlags := 18, nameIndex := 20, descriptorIndex := 21, attributes := #[] }])
  fields := #[{ name := "partition", type := .int, accessFlags := 18, slot := 0, constantValue := 0 }, { name := "depth", type := .int, accessFlags := 18, slot := 1, constantValue := 0 }, { name := "prefix", type := .long, accessFlags := 18, slot := 2, constantValue := 0 }]
  methods := #[k3m0, k3m1]
  instanceTypes := #[.int, .int, .long]
  staticTypes := #[]
  resolved := Array.replicate 125 none
  statics := none }

def pool4 : Array CpInfo := pool [(1, u "java/lang/Cloneable"), (0, .class_ 1), (0, u "java/lang/Object"), (0, .class_ 3)] 3

/-- java/lang/Cloneable -/
def k4 : Class := { plain "java/lang/Cloneable" (some 0) with
  accessFlags := 1537
  interfaces := #[]
  cf := some (fileOf pool4 2 #[] #[] 1537 4 #[] #[])
  fields := #[]
  methods := #[]
  instanceTypes := #[]
  staticTypes := #[]
  resolved := Array.replicate 8 none
  statics := none }

def pool5 : Array CpInfo := pool [(1, u "java/io/Serializable"), (0, .class_ 1), (0, u "java/lang/Object"), (0, .class_ 3)] 3

/-- java/io/Serializable -/
def k5 : Class := { plain "java/io/Serializable" (some 0) with
  accessFlags := 1537
  interfaces := #[]
  cf := some (fileOf pool5 2 #[] #[] 1537 4 #[] #[])
  fields := #[]
  methods := #[]
  instanceTypes := #[]
  staticTypes := #[]
  resolved := Array.replicate 8 none
  statics := none }

/-- the primitive byte -/
def k6 : Class := { plain "byte" none with kind := .primitive 'B', accessFlags := 0x411 }
/-- [B -/
def k7 : Class := { plain "[B" (some 0) with kind := .array 6 .byte, interfaces := #[4, 5], accessFlags := 1041 }

/-- the primitive int -/
def k8 : Class := { plain "int" none with kind := .primitive 'I', accessFlags := 0x411 }
/-- [I -/
def k9 : Class := { plain "[I" (some 0) with kind := .array 8 .int, interfaces := #[4, 5], accessFlags := 1041 }

def heap : Heap := #[]
def classes : Array Class := #[k0, k1, k2, k3, k4, k5, k6, k7, k8, k9]
def interned : List (Array UInt16 × Addr) := []
def slotsUsed : Nat := 0
def theMethod : MethodId := ⟨1, 2⟩
def args0 : Array Value := #[.int 5, .int 5, .long 5, .long 5, .int 5]
def aboutOver (below : List Frame) : State where
  vm := { classes := classes, interned := interned.toArray }
  heap := heap
  slotsUsed := slotsUsed
  threads := #[{ frames := .invoking theMethod args0 :: below }]
def below0 : List Frame := [.native { method := ⟨0, 0⟩, args := #[] }]
def about1 : State := aboutOver below0
def p0 : Program := .bare "" "" ""
def e0 : Env := launch0.env 0 0 0
theorem w_frames : about1.frames = Frame.invoking theMethod args0 :: below0 := rfl
set_option maxRecDepth 65536 in
theorem w_args : argsFit about1.vm theMethod args0 = true := by decide +kernel
set_option maxRecDepth 65536 in
theorem w_heap : heapFits about1 = true := by decide +kernel
set_option maxRecDepth 65536 in
theorem w_runnable : about1.curStatus? = some .runnable := by decide +kernel
set_option maxRecDepth 65536 in
theorem w_alone : about1.alone = true := by decide +kernel
set_option maxRecDepth 65536 in
theorem w_named : about1.methodNamed? x = some theMethod := by decide +kernel
set_option maxRecDepth 65536 in
theorem w_hears : about1.hears theMethod below0 = true := by decide +kernel
set_option maxRecDepth 65536 in
theorem w_ripe : about1.ripe theMethod args0 below0 = true := by decide +kernel
theorem w_running : about1.status = .running := rfl
set_option maxRecDepth 65536 in
theorem w_room : about1.hasRoom e0.platform room_1 = true :=
  launch0.hasRoom_least _ room_1 (by decide +kernel) (by decide +kernel) (by decide +kernel) (by decide +kernel) (by decide +kernel) (by decide +kernel)
theorem allAtoms_all (ts : List Jvm.Cond) (a : Array Jvm.Value) (st : Jvm.State) : (allAtoms ts).before a st = ts.all (fun c => c.before a st) := by
  induction ts with
  | nil => rfl
  | cons c t ih =>
    show (Jvm.Cond.and c (allAtoms t)).before a st = _
    rw [Jvm.Cond.before_and, ih, List.all_cons]
def words1 : List Jvm.Cond := Jvm.Cond.code x code maxLocals ret :: tables_1
/-- a 'code' word, met by the world's own term for the bytes: nothing is compared byte by byte -/
theorem code_word {y : MethodName} {bytes : ByteArray} {mx : Nat} {rt : Option FieldType} {a : Array Value} {s : State} {m : MethodId} {meth : Method} {c : Code} (h1 : s.methodNamed? y = some m) (h2 : s.vm.method? m = some meth) (h3 : meth.code = some c) (h4 : c.code = bytes)
    (h5 : (c.maxLocals == mx && c.exceptionTable.isEmpty && decide (c.maxStack ≤ mostOperands) && decide (meth.sig.returnType = rt) && !meth.locks && decide (parseMethodDescriptor y.desc = some meth.sig)) = true) : (Jvm.Cond.code y bytes mx rt).before a s = true := by
  simp only [Bool.and_eq_true, beq_iff_eq, Bool.not_eq_true', decide_eq_true_eq] at h5
  obtain ⟨⟨⟨⟨⟨g1, g2⟩, g3⟩, g4⟩, g5⟩, g6⟩ := h5
  simp [Cond.before, Cond.holds, Cond.value, h1, h2, h3, h4, g1, g2, g3, g4, g5, g6]
def isCode : Jvm.Cond → Bool
  | .code _ _ _ _ => true
  | _ => false
theorem all_split {L : List Jvm.Cond} {P : Jvm.Cond → Bool} (h1 : L.all (fun c => isCode c || P c) = true) (h2 : ∀ c ∈ L.filter isCode, P c = true) : L.all P = true := by
  refine List.all_eq_true.mpr fun c hc => ?_
  have h := List.all_eq_true.mp h1 c hc
  rcases Bool.eq_false_or_eq_true (isCode c) with hi | hi
  · exact h2 c (List.mem_filter.mpr ⟨hc, hi⟩)
  · simpa [hi] using h
set_option maxRecDepth 65536 in
theorem w_c0 : (Jvm.Cond.code x code maxLocals ret).before args0 about1 = true := code_word (m := ⟨1, 2⟩) (meth := k1m2) (c := k1c2) (by decide +kernel) rfl rfl rfl (by decide +kernel)
set_option maxRecDepth 65536 in
theorem w_c1 : (Jvm.Cond.code ({ cls := "com/example/tattle/tattle/antientropy/HashTreesCoversPinLaw", name := "unsignedLessOrEqual", desc := "(JJ)Z" } : Jvm.MethodName) method_2_code (4 : Nat) (Option.some Jvm.ClassFile.FieldType.boolean)).before args0 about1 = true := code_word (m := ⟨1, 1⟩) (meth := k1m1) (c := k1c1) (by decide +kernel) rfl rfl rfl (by decide +kernel)
set_option maxRecDepth 65536 in
theorem w_c2 : (Jvm.Cond.code ({ cls := "com/example/tattle/tattle/antientropy/HashTrees$Node", name := "<init>", desc := "(IIJ)V" } : Jvm.MethodName) prog_9_method_1_code (5 : Nat) (Option.none : Option Jvm.ClassFile.FieldType)).before args0 about1 = true := code_word (m := ⟨3, 0⟩) (meth := k3m0) (c := k3c0) (by decide +kernel) rfl rfl rfl (by decide +kernel)
set_option maxRecDepth 65536 in
theorem w_c3 : (Jvm.Cond.code ({ cls := "java/lang/Record", name := "<init>", desc := "()V" } : Jvm.MethodName) jdk_30_method_1_code (1 : Nat) (Option.none : Option Jvm.ClassFile.FieldType)).before args0 about1 = true := code_word (m := ⟨2, 0⟩) (meth := k2m0) (c := k2c0) (by decide +kernel) rfl rfl rfl (by decide +kernel)
set_option maxRecDepth 65536 in
theorem w_c4 : (Jvm.Cond.code ({ cls := "java/lang/Object", name := "<init>", desc := "()V" } : Jvm.MethodName) object_method_1_code (1 : Nat) (Option.none : Option Jvm.ClassFile.FieldType)).before args0 about1 = true := code_word (m := ⟨0, 0⟩) (meth := k0m0) (c := k0c0) (by decide +kernel) rfl rfl rfl (by decide +kernel)
set_option maxRecDepth 65536 in
theorem w_c5 : (Jvm.Cond.code ({ cls := "com/example/tattle/tattle/antientropy/HashTrees$Node", name := "covers", desc := "(J)Z" } : Jvm.MethodName) prog_9_method_4_code (3 : Nat) (Option.some Jvm.ClassFile.FieldType.boolean)).before args0 about1 = true := code_word (m := ⟨3, 1⟩) (meth := k3m1) (c := k3c1) (by decide +kernel) rfl rfl rfl (by decide +kernel)
def codes1 : List Jvm.Cond := [Jvm.Cond.code x code maxLocals ret, Jvm.Cond.code ({ cls := "com/example/tattle/tattle/antientropy/HashTreesCoversPinLaw", name := "unsignedLessOrEqual", desc := "(JJ)Z" } : Jvm.MethodName) method_2_code (4 : Nat) (Option.some Jvm.ClassFile.FieldType.boolean), Jvm.Cond.code ({ cls := "com/example/tattle/tattle/antientropy/HashTrees$Node", name := "<init>", desc := "(IIJ)V" } : Jvm.MethodName) prog_9_method_1_code (5 : Nat) (Option.none : Option Jvm.ClassFile.FieldType), Jvm.Cond.code ({ cls := "java/lang/Record", name := "<init>", desc := "()V" } : Jvm.MethodName) jdk_30_method_1_code (1 : Nat) (Option.none : Option Jvm.ClassFile.FieldType), Jvm.Cond.code ({ cls := "java/lang/Object", name := "<init>", desc := "()V" } : Jvm.MethodName) object_method_1_code (1 : Nat) (Option.none : Option Jvm.ClassFile.FieldType), Jvm.Cond.code ({ cls := "com/example/tattle/tattle/antientropy/HashTrees$Node", name := "covers", desc := "(J)Z" } : Jvm.MethodName) prog_9_method_4_code (3 : Nat) (Option.some Jvm.ClassFile.FieldType.boolean)]
set_option maxRecDepth 65536 in
theorem codes_eq : words1.filter isCode = codes1 := rfl
theorem w_codes : ∀ c ∈ words1.filter isCode, c.before args0 about1 = true := by
  rw [codes_eq]
  intro c hc
  simp only [codes1, List.mem_cons, List.not_mem_nil, or_false] at hc
  rcases hc with rfl | rfl | rfl | rfl | rfl | rfl
  · exact w_c0
  · exact w_c1
  · exact w_c2
  · exact w_c3
  · exact w_c4
  · exact w_c5
set_option maxRecDepth 65536 in
theorem w_t1 : (words1.take 24).all (fun c => isCode c || c.before args0 about1) = true := by decide +kernel
set_option maxRecDepth 65536 in
theorem w_t2 : (words1.drop 24).all (fun c => isCode c || c.before args0 about1) = true := by decide +kernel
theorem w_tables : (allAtoms (Jvm.Cond.code x code maxLocals ret :: tables_1)).before args0 about1 = true := by
  rw [allAtoms_all]
  show words1.all (fun c => c.before args0 about1) = true
  refine all_split ?_ w_codes
  rw [← List.take_append_drop 24 words1, List.all_append, w_t1, w_t2]
  rfl
set_option maxRecDepth 65536 in
theorem w_case : (Jvm.Cond.and given_1 narrow_1).before args0 about1 = true := by decide +kernel
theorem w_applies : (headSpec (Jvm.Cond.code x code maxLocals ret :: tables_1) room_1).applies x e0.platform about1 = true :=
  (Spec.applies_iff w_frames).mpr ⟨w_running, w_runnable, w_alone, w_named, w_hears, w_ripe, w_room, w_tables⟩
theorem atStart : AtStart classFile x code maxLocals ret World_1 tables_1 room_1 Calls_1 rest_1 Pre_1 launch0 p0 e0 about1 theMethod args0 below0 :=
  ⟨lists_1, trivial, launch0.admits_env _ _ _, launch0.least_env, fairChoices_fair.cas, fairChoices_fair.clock, w_frames, w_args, w_heap, w_applies, trivial, trivial, w_case⟩
end start1
theorem witness_1 : WitnessClaimed_1 := ⟨start1.p0, start1.e0, start1.about1, start1.theMethod, start1.args0, start1.below0, start1.atStart⟩
end Jvm.Pilot.@@N@@
