import JvmDerived
import JvmDerived.Pilot.@@N@@Statement
import JvmDerived.Pilot.@@N@@Code
set_option linter.unusedVariables false
set_option linter.unusedSimpArgs false
namespace Jvm.RoadKit
open Sem ClassFile Op Lib Jvm.Stand Jvm.Free Jvm.LawKit
section New
variable {p : Program} {l : Launch} {e : Env} {R : Room} {s : State} {m : MethodId} {args : Array Value} {below : List Frame} {meth : Method} {c : Code} {T : State} {locs : List Loc} {cells slots : Nat}
theorem retI (X : Stand p l e R s m args below meth c T locs cells slots) (hx : p.tables.exec = Jvm.exec) {pc : Nat} {Ls : Array Slot} {z : Int32} {rest : List Value} (hret : meth.sig.returnType = some .int) (hd : decode c.code pc = .ok (.ireturn, 1)) {fs : List Frame}
    (hl : ∀ (f : JFrame) (acts : List Action), f.method = m → f.locked = none → f.entered = [] → (doReturn e (T.setTop f) acts (some (.int z))).1 = T.setFrames fs) : Steps p.tables e below (T.setTop (mkF m pc Ls (.int z :: rest))) (T.setFrames fs) := by
  have hm' : T.vm.method? m = some meth := X.method'
  have hn : narrow .int (.int z) = .int z := rfl
  show Steps p.tables e below (T.setTop { method := m, pc := pc, locals := Ls, stack := _ :: rest, locked := none }) _
  jvm_step X.here [X.here.top, hx, hd, hm', hret, hn]
  first | (intro acts; rw [hl _ acts rfl rfl rfl]) | rw [hl _ _ rfl rfl rfl]
  exact Steps.refl _
theorem retA (X : Stand p l e R s m args below meth c T locs cells slots) (hx : p.tables.exec = Jvm.exec) {pc : Nat} {Ls : Array Slot} {a : Addr} {t : FieldType} {rest : List Value} (hret : meth.sig.returnType = some t) (ht : t.isReference = true) (hn : narrow t (.ref a) = .ref a) (hd : decode c.code pc = .ok (.areturn, 1)) {fs : List Frame}
    (hl : ∀ (f : JFrame) (acts : List Action), f.method = m → f.locked = none → f.entered = [] → (doReturn e (T.setTop f) acts (some (.ref a))).1 = T.setFrames fs) : Steps p.tables e below (T.setTop (mkF m pc Ls (.ref a :: rest))) (T.setFrames fs) :=
  retOut X hx hret hn (Or.inr (Or.inr (Or.inr (Or.inr ⟨rfl, ht, rfl⟩)))) hd hl
def Gd (tb : Tables) (e : Env) (below : List Frame) (P : State → Outcome → Prop) (A : State) : Prop := ∃ t o, Steps tb e below A t ∧ P t o
theorem Gd.out {tb : Tables} {P : State → Outcome → Prop} {A : State} (h : Gd tb e below P A) : ∃ t o, Steps tb e below A t ∧ P t o := h
theorem Gd.st {tb : Tables} {P : State → Outcome → Prop} {A B : State} (h : ∀ t, Steps tb e below B t → Steps tb e below A t) (k : Gd tb e below P B) : Gd tb e below P A := by
  obtain ⟨t, o, k1, k2⟩ := k; exact ⟨t, o, h t k1, k2⟩
theorem Gd.join {tb : Tables} {P : State → Outcome → Prop} {A B : State} (h : Gd tb e below P B → Gd tb e below P A) (k : Gd tb e below P B) : Gd tb e below P A := h k
theorem Gd.mk {tb : Tables} {P : State → Outcome → Prop} {A t : State} {o : Outcome} (h : Steps tb e below A t) (k : P t o) : Gd tb e below P A := ⟨t, o, h, k⟩
end New
end Jvm.RoadKit
namespace Jvm.Pilot.@@N@@
open Jvm Jvm.ClassFile Sem Op Lib Jvm.Free Jvm.Stand Jvm.LawKit Jvm.RoadKit Bundle Jvm.Pilot.@@N@@.Jvm.D
def own_d (p : Int32) : Int32 := (p &&& (2147483647 : Int32)) - ((p &&& (2147483647 : Int32)) / (17 : Int32)) * (17 : Int32)
def own_s (d : Int32) : Int32 := (64 : Int32) - ((4 : Int32) * d)
def own_pre (d : Int32) (q : Int64) : Int64 := if d = (16 : Int32) then q else q &&& (((1 : Int64) <<< (((4 : Int32) * d) &&& 0x3f).toInt64) - (1 : Int64))
def own_fst (d : Int32) (q : Int64) : Int64 := if d = (0 : Int32) then (0 : Int64) else q <<< ((own_s d) &&& 0x3f).toInt64
def own_cov (d : Int32) (q x : Int64) : Int32 := if d = (0 : Int32) ∨ ((x.toUInt64 >>> ((own_s d) &&& 0x3f).toInt64.toUInt64).toInt64) = q then 1 else 0
abbrev own_u (x : Int64) : Nat := x.toBitVec.toNat
theorem own_inj (x y : Int64) : x = y ↔ own_u x = own_u y := ⟨fun h => by rw [h], fun h => Int64.toBitVec_inj.mp (BitVec.eq_of_toNat_eq h)⟩
theorem own_drng (p : Int32) : 0 ≤ (own_d p).toInt ∧ (own_d p).toInt ≤ 16 := by
  have h : (own_d p).toInt = (p &&& 2147483647).toInt % 17 := by
    unfold own_d
    rw [irem_eq_mod]
    exact (c_irem _ 17 17 (by decide)).1 (c_and p 2147483647 (by decide)).1
  omega
theorem own_nat (x : Int32) (h : 0 ≤ x.toInt) : x.toBitVec.toNat = x.toInt.toNat := by
  have h1 := x.toBitVec.isLt
  have h2 : 0 ≤ x.toBitVec.toInt := h
  show _ = x.toBitVec.toInt.toNat
  rw [BitVec.toInt_eq_toNat_cond] at h2 ⊢
  split at h2 <;> omega
theorem own_4d (d : Int32) (h : 0 ≤ d.toInt ∧ d.toInt ≤ 16) : ((4 : Int32) * d).toInt = 4 * d.toInt := by
  have h1 := c_imul (4 : Int32) d
  have h2 := rng32 ((4 : Int32) * d)
  rw [show (4 : Int32).toInt = 4 from rfl] at h1
  omega
theorem own_sv (d : Int32) (h : 0 ≤ d.toInt ∧ d.toInt ≤ 16) : (own_s d).toInt = 64 - 4 * d.toInt := by
  have h0 := own_4d d h
  have h1 := c_isub (64 : Int32) ((4 : Int32) * d)
  have h2 := rng32 ((64 : Int32) - (4 : Int32) * d)
  rw [show (64 : Int32).toInt = 64 from rfl] at h1
  unfold own_s
  omega
theorem own_shl (x : Int64) (q : Int32) (k : Nat) (hk : q.toBitVec.toNat % 64 = k) : own_u (x <<< (q &&& 0x3f).toInt64) = own_u x * 2 ^ k % 2 ^ 64 := by
  show (x.toBitVec <<< ((q &&& 0x3f).toInt64.toBitVec.smod 64)).toNat = _
  rw [BitVec.shiftLeft_eq', (sm64 q k hk).1, smod64 k (sm64 q k hk).2, BitVec.toNat_shiftLeft, Nat.shiftLeft_eq]
theorem own_shr (x : Int64) (q : Int32) (k : Nat) (hk : q.toBitVec.toNat % 64 = k) : own_u ((x.toUInt64 >>> (q &&& 0x3f).toInt64.toUInt64).toInt64) = own_u x / 2 ^ k := by
  show (x.toBitVec >>> ((q &&& 0x3f).toInt64.toBitVec % 64)).toNat = _
  have h5 := (sm64 q k hk).2
  rw [BitVec.ushiftRight_eq', BitVec.toNat_ushiftRight, Nat.shiftRight_eq_div_pow, BitVec.toNat_umod, (sm64 q k hk).1, BitVec.toNat_ofNat]
  congr 2
  show k % 2 ^ 64 % 64 = k
  omega
theorem own_sub1 (x : Int64) (h : 0 < own_u x) : own_u (x - 1) = own_u x - 1 := by
  have h1 := x.toBitVec.isLt
  show (x.toBitVec - 1#64).toNat = _
  rw [BitVec.toNat_sub]
  show (2 ^ 64 - 1 + x.toBitVec.toNat) % 2 ^ 64 = x.toBitVec.toNat - 1
  have : 0 < x.toBitVec.toNat := h
  omega
theorem own_bit (q : Int32) (k : Nat) (hk : q.toBitVec.toNat % 64 = k) : own_u (((1 : Int64) <<< (q &&& 0x3f).toInt64) - 1) = 2 ^ k - 1 := by
  have h5 := (sm64 q k hk).2
  have h1 : own_u ((1 : Int64) <<< (q &&& 0x3f).toInt64) = 2 ^ k := by
    rw [own_shl _ q k hk, show own_u 1 = 1 from rfl, Nat.one_mul]
    exact Nat.mod_eq_of_lt (Nat.pow_lt_pow_right (by decide) h5)
  rw [own_sub1 _ (by rw [h1]; exact Nat.two_pow_pos k), h1]
theorem own_prelt (d : Int32) (q : Int64) (h : 0 ≤ d.toInt ∧ d.toInt ≤ 16) : own_u (own_pre d q) < 2 ^ (4 * d.toInt).toNat := by
  unfold own_pre
  by_cases h16 : d = 16
  · rw [if_pos h16, h16]
    exact q.toBitVec.isLt
  · rw [if_neg h16]
    have h4 := own_4d d h
    have hd : d.toInt ≠ 16 := fun e => h16 (Int32.toInt_inj.mp e)
    have hk : ((4 : Int32) * d).toBitVec.toNat % 64 = (4 * d.toInt).toNat := by rw [own_nat _ (by omega), h4]; omega
    show (q.toBitVec &&& (((1 : Int64) <<< (((4 : Int32) * d) &&& 0x3f).toInt64) - 1).toBitVec).toNat < _
    rw [BitVec.toNat_and]
    have := own_bit ((4 : Int32) * d) _ hk
    have h2 : (((1 : Int64) <<< (((4 : Int32) * d) &&& 0x3f).toInt64) - 1).toBitVec.toNat = 2 ^ (4 * d.toInt).toNat - 1 := this
    rw [h2, Nat.and_two_pow_sub_one_eq_mod]
    exact Nat.mod_lt _ (Nat.two_pow_pos _)
theorem own_sn (d : Int32) (h : 0 ≤ d.toInt ∧ d.toInt ≤ 16) (h0 : ¬ d = 0) : ∃ k : Nat, (own_s d).toBitVec.toNat % 64 = k ∧ (own_s d).toInt = k ∧ (4 * d.toInt).toNat + k = 64 ∧ k < 64 := by
  have hs := own_sv d h
  have hd : d.toInt ≠ 0 := fun e => h0 (Int32.toInt_inj.mp e)
  refine ⟨(64 - 4 * d.toInt).toNat, ?_, by omega, by omega, by omega⟩
  rw [own_nat _ (by omega), hs]
  omega
theorem own_fstu (d : Int32) (q : Int64) (h : 0 ≤ d.toInt ∧ d.toInt ≤ 16) (h0 : ¬ d = 0) (k : Nat) (hk : (own_s d).toBitVec.toNat % 64 = k) (h64 : (4 * d.toInt).toNat + k = 64) : own_u (own_fst d (own_pre d q)) = own_u (own_pre d q) * 2 ^ k ∧ own_u (own_pre d q) * 2 ^ k < 2 ^ 64 := by
  have hl := own_prelt d q h
  have : own_u (own_pre d q) * 2 ^ k < 2 ^ 64 := by
    calc own_u (own_pre d q) * 2 ^ k < 2 ^ (4 * d.toInt).toNat * 2 ^ k := Nat.mul_lt_mul_of_pos_right hl (Nat.two_pow_pos k)
      _ = 2 ^ 64 := by rw [← Nat.pow_add, h64]
  refine ⟨?_, this⟩
  unfold own_fst
  rw [if_neg h0, own_shl _ _ k hk, Nat.mod_eq_of_lt this]
theorem own_covu (d : Int32) (q x : Int64) (h0 : ¬ d = 0) (k : Nat) (hk : (own_s d).toBitVec.toNat % 64 = k) : own_cov d q x = if own_u x / 2 ^ k = own_u q then 1 else 0 := by
  unfold own_cov
  have e : ((x.toUInt64 >>> ((own_s d) &&& 0x3f).toInt64.toUInt64).toInt64) = q ↔ own_u x / 2 ^ k = own_u q := by rw [own_inj, own_shr _ _ k hk]
  by_cases h : own_u x / 2 ^ k = own_u q
  · rw [if_pos h, if_pos (Or.inr (e.mpr h))]
  · rw [if_neg h, if_neg (fun z => z.elim h0 (fun y => h (e.mp y)))]
def own_msk (d : Int32) : Int64 := if own_s d = (0 : Int32) then (0 : Int64) else ((1 : Int64) <<< ((own_s d) &&& 0x3f).toInt64) - (1 : Int64)
theorem own_zero (d : Int32) (q : Int64) (h : d = (0 : Int32)) : own_fst d q = (0 : Int64) := by unfold own_fst; rw [if_pos h]
theorem own_top (p : Int32) (q : Int64) (h0 : ¬ own_d p = (0 : Int32)) : (((own_fst (own_d p) (own_pre (own_d p) q)).toUInt64 >>> ((own_s (own_d p)) &&& 0x3f).toInt64.toUInt64).toInt64) = own_pre (own_d p) q := by
  obtain ⟨k, hk, -, h64, -⟩ := own_sn _ (own_drng p) h0
  rw [own_inj, own_shr _ _ k hk, (own_fstu _ q (own_drng p) h0 k hk h64).1]
  exact Nat.mul_div_cancel _ (Nat.two_pow_pos k)
theorem own_low0 (p : Int32) (q : Int64) (h0 : ¬ own_d p = (0 : Int32)) : (own_fst (own_d p) (own_pre (own_d p) q) &&& own_msk (own_d p)) = (0 : Int64) := by
  obtain ⟨k, hk, hv, h64, -⟩ := own_sn _ (own_drng p) h0
  have hm : own_u (own_msk (own_d p)) = 2 ^ k - 1 := by
    unfold own_msk
    by_cases hz : own_s (own_d p) = 0
    · rw [if_pos hz]
      have : k = 0 := by rw [hz] at hv; have : (0 : Int32).toInt = 0 := rfl; omega
      subst this; rfl
    · rw [if_neg hz]; exact own_bit _ k hk
  rw [own_inj]
  show ((own_fst (own_d p) (own_pre (own_d p) q)).toBitVec &&& (own_msk (own_d p)).toBitVec).toNat = 0
  rw [BitVec.toNat_and]
  have h1 : (own_fst (own_d p) (own_pre (own_d p) q)).toBitVec.toNat = _ := (own_fstu _ q (own_drng p) h0 k hk h64).1
  have h2 : (own_msk (own_d p)).toBitVec.toNat = 2 ^ k - 1 := hm
  rw [h1, h2, Nat.and_two_pow_sub_one_eq_mod]
  exact Nat.mul_mod_left _ _
theorem own_covers (p : Int32) (q : Int64) (h0 : ¬ own_d p = (0 : Int32)) : ¬ own_cov (own_d p) (own_pre (own_d p) q) (own_fst (own_d p) (own_pre (own_d p) q)) = (0 : Int32) := by
  unfold own_cov
  rw [if_pos (Or.inr (own_top p q h0))]
  decide
theorem own_below (p : Int32) (q : Int64) (h0 : ¬ own_d p = (0 : Int32)) (hf : ¬ own_fst (own_d p) (own_pre (own_d p) q) = (0 : Int64)) : own_cov (own_d p) (own_pre (own_d p) q) (own_fst (own_d p) (own_pre (own_d p) q) - (1 : Int64)) = (0 : Int32) := by
  obtain ⟨k, hk, -, h64, -⟩ := own_sn _ (own_drng p) h0
  have hu := (own_fstu _ q (own_drng p) h0 k hk h64).1
  have hp : 0 < own_u (own_fst (own_d p) (own_pre (own_d p) q)) := Nat.pos_of_ne_zero fun e => hf ((own_inj _ _).mpr e)
  rw [own_covu _ _ _ h0 k hk, own_sub1 _ hp, hu, if_neg]
  intro e
  have h1 : (own_u (own_pre (own_d p) q) * 2 ^ k - 1) / 2 ^ k < own_u (own_pre (own_d p) q) := (Nat.div_lt_iff_lt_mul (Nat.two_pow_pos k)).mpr (by omega)
  omega
theorem d2_0 : decode jdk_30_method_1_code 0 = .ok (.aload_n 0, 1) := by decide +kernel
theorem d2_1 : decode jdk_30_method_1_code 1 = .ok (.invokespecial 1, 3) := by decide +kernel
theorem d2_4 : decode jdk_30_method_1_code 4 = .ok (.return_, 1) := by decide +kernel
theorem pn_Record : plainName "java/lang/Record" = true := by first | (simp [plainName, overriddenIn]; done) | decide +kernel
theorem ef_2 (m : MethodId) (x0 : Addr) : entryFrame m #[(.ref x0)] 1 = mkF m 0 #[.val (.ref x0)] [] := by first | (simp [entryFrame, mkF, argsToLocals, Value.category]; done) | rfl
def Q2 (Z : State) (a1 : Addr) (h0 : Heap) (n0 : Nat) (v : Option Value) (h : Heap) (L : List Loc) : Prop := v = none ∧ Fr n0 L ∧ h = h0
set_option maxRecDepth 65536 in
set_option maxHeartbeats 40000000 in
theorem rm2 (l : Launch) (Z : State) (a0 : Array Value) (hw : ∀ d ∈ tables_1, d.before a0 Z = true) (ws : List Jvm.Cond) (a1 : Addr) (h0 : Heap) (n0 : Nat) (Z0 : n0 ≤ h0.size) :
    MetFree l (⟨"java/lang/Record", "<init>", "()V"⟩ : MethodName) (head1 (Jvm.Cond.code (⟨"java/lang/Record", "<init>", "()V"⟩ : MethodName) jdk_30_method_1_code 1 none :: ws) ({ frames := 1, cells := 0, slots := 0, locals := 12 } : Room)) (fun a U => a = #[(.ref a1)] ∧ Z.Warmed39 U.vm ∧ U.heap = h0) (fun _ _ _ _ _ => True) (fun _ U o U' => ∃ v L, o = .returned v ∧ Q2 Z a1 h0 n0 v U'.heap L ∧ FrameEnd U o U' L ({ frames := 1, cells := 0, slots := 0, locals := 12 } : Room).cells ({ frames := 1, cells := 0, slots := 0, locals := 12 } : Room).slots) := by
  refine MetFree.of_bodySF (plainFor_of_name pn_Record) hisR ?_
  intro p e s m args below meth c s₁ Bd hml0 hP hK
  obtain ⟨rfl, hZ, hh⟩ := hP
  have hx := Bd.exec
  have hby := Bd.bytes
  have hml : c.maxLocals = 1 := hml0
  have hown : s.vm.findClass "java/lang/Record" = some m.cls := findClass_of_methodNamed Bd.named
  have hnm := (name_of_methodNamed Bd.named Bd.method).1
  have X0 : Stand p l e ({ frames := 1, cells := 0, slots := 0, locals := 12 } : Room) s m #[(.ref a1)] below meth c s₁ [] 0 0 := Stand.of_body Bd
  have e0 : s₁.heap = h0 := by rw [← hh, Bd.state]; rfl
  have N0 := Fr.nil n0
  refine Gd.out (Gd.st (fun t k => castTop (ef_2 m a1) k) ?_)
  show Gd p.tables e below _ (s₁.setTop (mkF m 0 #[.val (.ref a1)] []))
  refine Gd.st (fun _ k => XS.aloadN X0.here hx rfl (hb hby d2_0) rfl rfl k) ?_
  show Gd p.tables e below _ (s₁.setTop (mkF m 1 #[.val (.ref a1)] [(.ref a1)]))
  obtain ⟨T1, X1, e1, st1⟩ := initO X0 hx hZ hown (hw _ (List.mem_of_getElem? (i := 12) rfl)) (hw _ (List.mem_of_getElem? (i := 13) rfl)) (hw _ (List.mem_of_getElem? (i := 14) rfl)) e0 (g := (mkF m 1 #[.val (.ref a1)] [(.ref a1)])) rfl (by rw [hml]; rfl) rfl (hb hby d2_1) (by decide) (W := 0) (by show 2 * 0 + _ ≤ _; exact Nat.le_of_eq rfl) (by decide)
  refine Gd.st st1 ?_
  show Gd p.tables e below _ (T1.setTop (mkF m 4 #[.val (.ref a1)] []))
  obtain ⟨fs, hr, hrun, hended, hW, hsame⟩ := X1.leave (v := none) (fun _ => rfl) Bd.notSynchronized
  refine Gd.mk (o := .returned (none)) (X1.returnOut hx Bd.returns (hb hby d2_4) hr) ⟨hrun, hended, _, _, rfl, ?_, ⟨_, rfl⟩, hW, hsame.mono (by decide) (by decide)⟩
  show Q2 Z a1 h0 n0 _ T1.heap _
  rw [e1]
  exact ⟨rfl, N0, rfl⟩
theorem d1_0 : decode prog_9_method_1_code 0 = .ok (.aload_n 0, 1) := by decide +kernel
theorem d1_1 : decode prog_9_method_1_code 1 = .ok (.invokespecial 3, 3) := by decide +kernel
theorem d1_4 : decode prog_9_method_1_code 4 = .ok (.aload_n 0, 1) := by decide +kernel
theorem d1_5 : decode prog_9_method_1_code 5 = .ok (.iload_n 1, 1) := by decide +kernel
theorem d1_6 : decode prog_9_method_1_code 6 = .ok (.putfield 9, 3) := by decide +kernel
theorem d1_9 : decode prog_9_method_1_code 9 = .ok (.aload_n 0, 1) := by decide +kernel
theorem d1_10 : decode prog_9_method_1_code 10 = .ok (.iload_n 2, 1) := by decide +kernel
theorem d1_11 : decode prog_9_method_1_code 11 = .ok (.putfield 15, 3) := by decide +kernel
theorem d1_14 : decode prog_9_method_1_code 14 = .ok (.aload_n 0, 1) := by decide +kernel
theorem d1_15 : decode prog_9_method_1_code 15 = .ok (.lload_n 3, 1) := by decide +kernel
theorem d1_16 : decode prog_9_method_1_code 16 = .ok (.putfield 18, 3) := by decide +kernel
theorem d1_19 : decode prog_9_method_1_code 19 = .ok (.return_, 1) := by decide +kernel
theorem pn_HashTrees_Node : plainName "com/example/tattle/tattle/antientropy/HashTrees$Node" = true := by first | (simp [plainName, overriddenIn]; done) | decide +kernel
theorem ef_1 (m : MethodId) (x0 : Addr) (x1 : Int32) (x2 : Int32) (x3 : Int64) : entryFrame m #[(.ref x0), (.int x1), (.int x2), (.long x3)] 5 = mkF m 0 #[.val (.ref x0), .val (.int x1), .val (.int x2), .val (.long x3), .second] [] := by first | (simp [entryFrame, mkF, argsToLocals, Value.category]; done) | rfl
theorem pd___V_3 : parseMethodDescriptor "()V" = some ⟨[], none⟩ := by decide +kernel
def Q1 (Z : State) (a1 : Addr) (p2 : Int32) (p3 : Int32) (q4 : Int64) (h0 : Heap) (n0 : Nat) (v : Option Value) (h : Heap) (L : List Loc) : Prop := v = none ∧ Fr n0 L ∧ Keep h0 h [a1] ∧ Exa Z h a1 "com/example/tattle/tattle/antientropy/HashTrees$Node" ∧ Fld Z h a1 "com/example/tattle/tattle/antientropy/HashTrees$Node" "partition" "I" (.int p2) ∧ Fld Z h a1 "com/example/tattle/tattle/antientropy/HashTrees$Node" "depth" "I" (.int p3) ∧ Fld Z h a1 "com/example/tattle/tattle/antientropy/HashTrees$Node" "prefix" "J" (.long q4)
set_option maxRecDepth 65536 in
set_option maxHeartbeats 40000000 in
theorem rm1 (l : Launch) (Z : State) (a0 : Array Value) (hw : ∀ d ∈ tables_1, d.before a0 Z = true) (ws : List Jvm.Cond) (a1 : Addr) (p2 : Int32) (p3 : Int32) (q4 : Int64) (h0 : Heap) (n0 : Nat) (Z0 : n0 ≤ h0.size) (E0 : Exa Z h0 a1 "com/example/tattle/tattle/antientropy/HashTrees$Node") (F0_0 : Fld Z h0 a1 "com/example/tattle/tattle/antientropy/HashTrees$Node" "partition" "I" (.int (0 : Int32))) (F0_1 : Fld Z h0 a1 "com/example/tattle/tattle/antientropy/HashTrees$Node" "depth" "I" (.int (0 : Int32))) (F0_2 : Fld Z h0 a1 "com/example/tattle/tattle/antientropy/HashTrees$Node" "prefix" "J" (.long (0 : Int64))) (g_a1 : n0 ≤ a1) :
    MetFree l (⟨"com/example/tattle/tattle/antientropy/HashTrees$Node", "<init>", "(IIJ)V"⟩ : MethodName) (head1 (Jvm.Cond.code (⟨"com/example/tattle/tattle/antientropy/HashTrees$Node", "<init>", "(IIJ)V"⟩ : MethodName) prog_9_method_1_code 5 none :: ws) ({ frames := 2, cells := 0, slots := 0, locals := 24 } : Room)) (fun a U => a = #[(.ref a1), (.int p2), (.int p3), (.long q4)] ∧ Z.Warmed39 U.vm ∧ U.heap = h0) (fun _ _ _ _ _ => True) (fun _ U o U' => ∃ v L, o = .returned v ∧ Q1 Z a1 p2 p3 q4 h0 n0 v U'.heap L ∧ FrameEnd U o U' L ({ frames := 2, cells := 0, slots := 0, locals := 24 } : Room).cells ({ frames := 2, cells := 0, slots := 0, locals := 24 } : Room).slots) := by
  refine MetFree.of_bodySF (plainFor_of_name pn_HashTrees_Node) hisR ?_
  intro p e s m args below meth c s₁ Bd hml0 hP hK
  obtain ⟨rfl, hZ, hh⟩ := hP
  have hx := Bd.exec
  have hby := Bd.bytes
  have hml : c.maxLocals = 5 := hml0
  have hown : s.vm.findClass "com/example/tattle/tattle/antientropy/HashTrees$Node" = some m.cls := findClass_of_methodNamed Bd.named
  have hnm := (name_of_methodNamed Bd.named Bd.method).1
  have X0 : Stand p l e ({ frames := 2, cells := 0, slots := 0, locals := 24 } : Room) s m #[(.ref a1), (.int p2), (.int p3), (.long q4)] below meth c s₁ [] 0 0 := Stand.of_body Bd
  have e0 : s₁.heap = h0 := by rw [← hh, Bd.state]; rfl
  have N0 := Fr.nil n0
  refine Gd.out (Gd.st (fun t k => castTop (ef_1 m a1 p2 p3 q4) k) ?_)
  show Gd p.tables e below _ (s₁.setTop (mkF m 0 #[.val (.ref a1), .val (.int p2), .val (.int p3), .val (.long q4), .second] []))
  refine Gd.st (fun _ k => XS.aloadN X0.here hx rfl (hb hby d1_0) rfl rfl k) ?_
  show Gd p.tables e below _ (s₁.setTop (mkF m 1 #[.val (.ref a1), .val (.int p2), .val (.int p3), .val (.long q4), .second] [(.ref a1)]))
  obtain ⟨_, _, ⟨T1, L1, k1, n1⟩, -, X1, ⟨Lc1, hQ1, l1, y1, z1⟩, st1⟩ := X0.specialBack hx (y := (⟨"java/lang/Record", "<init>", "()V"⟩ : MethodName)) rfl hown (mvT hZ (hw _ (List.mem_of_getElem? (i := 7) rfl))) (mvT hZ (hw _ (List.mem_of_getElem? (i := 8) rfl))) (mvT hZ (hw _ (List.mem_of_getElem? (i := 11) rfl))) (by decide) (backOf (W := 0) (rm2 l Z a0 hw [] a1 h0 n0 Z0 ) hZ (hw _ (List.mem_of_getElem? (i := 11) rfl)) (hw _ (List.mem_of_getElem? (i := 10) rfl)) (by decide) (by decide)) (g := (mkF m 1 #[.val (.ref a1), .val (.int p2), .val (.int p3), .val (.long q4), .second] [(.ref a1)])) rfl (by rw [hml]; rfl) (Steps.refl _) (a := a1) (argsL := []) (rest := []) (lenOf pd___V_3 rfl) rfl (by show 2 * 0 + _ ≤ _; exact Nat.le_of_eq rfl) (hb hby d1_1) (fun _ _ => ⟨rfl, e0, (by decide : 0 + 0 ≤ _), (by decide : 0 + 0 ≤ _)⟩)
  dsimp only [Pt.U, Pt.locs, Pt.cells, Pt.slots] at X1 l1 y1 z1 st1 hQ1
  simp only [Nat.add_zero, Nat.zero_add, Nat.reduceAdd] at y1 z1
  subst y1 z1
  obtain ⟨rfl, N1q, eh1⟩ := hQ1
  have N1 : Fr n0 L1 := by rw [l1]; exact Fr.app N0 N1q
  clear l1
  refine Gd.st (fun _ k => st1.trans k) ?_
  have e1 : T1.heap = h0 := eh1
  show Gd p.tables e below _ (T1.setTop (mkF m 4 #[.val (.ref a1), .val (.int p2), .val (.int p3), .val (.long q4), .second] []))
  refine Gd.st (fun _ k => XS.aloadN X1.here hx rfl (hb hby d1_4) rfl rfl k) ?_
  show Gd p.tables e below _ (T1.setTop (mkF m 5 #[.val (.ref a1), .val (.int p2), .val (.int p3), .val (.long q4), .second] [(.ref a1)]))
  refine Gd.st (fun _ k => XS.iloadN X1.here hx rfl (hb hby d1_5) rfl k) ?_
  show Gd p.tables e below _ (T1.setTop (mkF m 6 #[.val (.ref a1), .val (.int p2), .val (.int p3), .val (.long q4), .second] [(.int p2), (.ref a1)]))
  obtain ⟨T2, h2, X2, e2, W2, st2⟩ := putF X1 hx hZ hown (host := "") (Or.inl (hw _ (List.mem_of_getElem? (i := 15) rfl))) Via.refl e1 F0_0 E0 (Or.inr ⟨(hw _ (List.mem_of_getElem? (i := 16) rfl)), rfl, hnm⟩) (hw _ (List.mem_of_getElem? (i := 2) rfl)) (ty := .int) (by decide) rfl rfl (g := (mkF m 6 #[.val (.ref a1), .val (.int p2), .val (.int p3), .val (.long q4), .second] [(.int p2), (.ref a1)])) rfl rfl (hb hby d1_6)
  refine Gd.st st2 ?_
  have Fw2 := F0_0.same W2
  have N2 := Fr.snoc X2 N1 g_a1
  have Z3 : n0 ≤ h2.size := Nat.le_trans Z0 (Keep.of_wr W2).1
  have K4 : Keep h0 h2 [a1] := (Keep.refl h0 [a1]).wr W2 (Or.inl (List.mem_of_getElem? (i := 0) rfl))
  show Gd p.tables e below _ (T2.setTop (mkF m 9 #[.val (.ref a1), .val (.int p2), .val (.int p3), .val (.long q4), .second] []))
  refine Gd.st (fun _ k => XS.aloadN X2.here hx rfl (hb hby d1_9) rfl rfl k) ?_
  show Gd p.tables e below _ (T2.setTop (mkF m 10 #[.val (.ref a1), .val (.int p2), .val (.int p3), .val (.long q4), .second] [(.ref a1)]))
  refine Gd.st (fun _ k => XS.iloadN X2.here hx rfl (hb hby d1_10) rfl k) ?_
  show Gd p.tables e below _ (T2.setTop (mkF m 11 #[.val (.ref a1), .val (.int p2), .val (.int p3), .val (.long q4), .second] [(.int p3), (.ref a1)]))
  have q5 := (Fld.other W2 F0_1 (Or.inr (slot_ne (Or.inr (hw _ (List.mem_of_getElem? (i := 18) rfl))) (Or.inr (hw _ (List.mem_of_getElem? (i := 16) rfl))) (by decide) (t := .int) (t' := .int) (by decide) (by decide))))
  have q6 := (E0.wr W2)
  obtain ⟨T7, h7, X7, e7, W7, st7⟩ := putF X2 hx hZ hown (host := "") (Or.inl (hw _ (List.mem_of_getElem? (i := 17) rfl))) Via.refl e2 q5 q6 (Or.inr ⟨(hw _ (List.mem_of_getElem? (i := 18) rfl)), rfl, hnm⟩) (hw _ (List.mem_of_getElem? (i := 2) rfl)) (ty := .int) (by decide) rfl rfl (g := (mkF m 11 #[.val (.ref a1), .val (.int p2), .val (.int p3), .val (.long q4), .second] [(.int p3), (.ref a1)])) rfl rfl (hb hby d1_11)
  refine Gd.st st7 ?_
  have Fw7 := q5.same W7
  have N7 := Fr.snoc X7 N2 g_a1
  have Z8 : n0 ≤ h7.size := Nat.le_trans Z3 (Keep.of_wr W7).1
  have K9 : Keep h0 h7 [a1] := K4.wr W7 (Or.inl (List.mem_of_getElem? (i := 0) rfl))
  show Gd p.tables e below _ (T7.setTop (mkF m 14 #[.val (.ref a1), .val (.int p2), .val (.int p3), .val (.long q4), .second] []))
  refine Gd.st (fun _ k => XS.aloadN X7.here hx rfl (hb hby d1_14) rfl rfl k) ?_
  show Gd p.tables e below _ (T7.setTop (mkF m 15 #[.val (.ref a1), .val (.int p2), .val (.int p3), .val (.long q4), .second] [(.ref a1)]))
  refine Gd.st (fun _ k => XS.lloadN X7.here hx rfl (hb hby d1_15) rfl k) ?_
  show Gd p.tables e below _ (T7.setTop (mkF m 16 #[.val (.ref a1), .val (.int p2), .val (.int p3), .val (.long q4), .second] [(.long q4), (.ref a1)]))
  have q10 := (Fld.other W7 (Fld.other W2 F0_2 (Or.inr (slot_ne (Or.inr (hw _ (List.mem_of_getElem? (i := 20) rfl))) (Or.inr (hw _ (List.mem_of_getElem? (i := 16) rfl))) (by decide) (t := .long) (t' := .int) (by decide) (by decide)))) (Or.inr (slot_ne (Or.inr (hw _ (List.mem_of_getElem? (i := 20) rfl))) (Or.inr (hw _ (List.mem_of_getElem? (i := 18) rfl))) (by decide) (t := .long) (t' := .int) (by decide) (by decide))))
  have q11 := (q6.wr W7)
  obtain ⟨T12, h12, X12, e12, W12, st12⟩ := putF X7 hx hZ hown (host := "") (Or.inl (hw _ (List.mem_of_getElem? (i := 19) rfl))) Via.refl e7 q10 q11 (Or.inr ⟨(hw _ (List.mem_of_getElem? (i := 20) rfl)), rfl, hnm⟩) (hw _ (List.mem_of_getElem? (i := 2) rfl)) (ty := .long) (by decide) rfl rfl (g := (mkF m 16 #[.val (.ref a1), .val (.int p2), .val (.int p3), .val (.long q4), .second] [(.long q4), (.ref a1)])) rfl rfl (hb hby d1_16)
  refine Gd.st st12 ?_
  have Fw12 := q10.same W12
  have N12 := Fr.snoc X12 N7 g_a1
  have Z13 : n0 ≤ h12.size := Nat.le_trans Z8 (Keep.of_wr W12).1
  have K14 : Keep h0 h12 [a1] := K9.wr W12 (Or.inl (List.mem_of_getElem? (i := 0) rfl))
  show Gd p.tables e below _ (T12.setTop (mkF m 19 #[.val (.ref a1), .val (.int p2), .val (.int p3), .val (.long q4), .second] []))
  obtain ⟨fs, hr, hrun, hended, hW, hsame⟩ := X12.leave (v := none) (fun _ => rfl) Bd.notSynchronized
  have q15 := (q11.wr W12)
  have q16 := (Fld.other W12 (Fld.other W7 Fw2 (Or.inr (slot_ne (Or.inr (hw _ (List.mem_of_getElem? (i := 16) rfl))) (Or.inr (hw _ (List.mem_of_getElem? (i := 18) rfl))) (by decide) (t := .int) (t' := .int) (by decide) (by decide)))) (Or.inr (slot_ne (Or.inr (hw _ (List.mem_of_getElem? (i := 16) rfl))) (Or.inr (hw _ (List.mem_of_getElem? (i := 20) rfl))) (by decide) (t := .int) (t' := .long) (by decide) (by decide))))
  have q17 := (Fld.other W12 Fw7 (Or.inr (slot_ne (Or.inr (hw _ (List.mem_of_getElem? (i := 18) rfl))) (Or.inr (hw _ (List.mem_of_getElem? (i := 20) rfl))) (by decide) (t := .int) (t' := .long) (by decide) (by decide))))
  refine Gd.mk (o := .returned (none)) (X12.returnOut hx Bd.returns (hb hby d1_19) hr) ⟨hrun, hended, _, _, rfl, ?_, ⟨_, rfl⟩, hW, hsame.mono (by decide) (by decide)⟩
  show Q1 Z a1 p2 p3 q4 h0 n0 _ T12.heap _
  rw [e12]
  exact ⟨rfl, N12, K14, q15, q16, q17, Fw12⟩
theorem d4_0 : decode prog_9_method_6_code 0 = .ok (.aload_n 0, 1) := by decide +kernel
theorem d4_1 : decode prog_9_method_6_code 1 = .ok (.getfield 15, 3) := by decide +kernel
theorem d4_4 : decode prog_9_method_6_code 4 = .ok (.ifCond .ne 7, 3) := by decide +kernel
theorem d4_7 : decode prog_9_method_6_code 7 = .ok (.lconst 0, 1) := by decide +kernel
theorem d4_8 : decode prog_9_method_6_code 8 = .ok (.goto 17, 3) := by decide +kernel
theorem d4_11 : decode prog_9_method_6_code 11 = .ok (.aload_n 0, 1) := by decide +kernel
theorem d4_12 : decode prog_9_method_6_code 12 = .ok (.getfield 18, 3) := by decide +kernel
theorem d4_15 : decode prog_9_method_6_code 15 = .ok (.bipush 64, 2) := by decide +kernel
theorem d4_17 : decode prog_9_method_6_code 17 = .ok (.iconst 4, 1) := by decide +kernel
theorem d4_18 : decode prog_9_method_6_code 18 = .ok (.aload_n 0, 1) := by decide +kernel
theorem d4_19 : decode prog_9_method_6_code 19 = .ok (.getfield 15, 3) := by decide +kernel
theorem d4_22 : decode prog_9_method_6_code 22 = .ok (.imul, 1) := by decide +kernel
theorem d4_23 : decode prog_9_method_6_code 23 = .ok (.isub, 1) := by decide +kernel
theorem d4_24 : decode prog_9_method_6_code 24 = .ok (.lshl, 1) := by decide +kernel
theorem d4_25 : decode prog_9_method_6_code 25 = .ok (.lreturn, 1) := by decide +kernel
theorem ef_4 (m : MethodId) (x0 : Addr) : entryFrame m #[(.ref x0)] 1 = mkF m 0 #[.val (.ref x0)] [] := by first | (simp [entryFrame, mkF, argsToLocals, Value.category]; done) | rfl
def Q4 (Z : State) (a1 : Addr) (p3 : Int32) (q4 : Int64) (h0 : Heap) (n0 : Nat) (v : Option Value) (h : Heap) (L : List Loc) : Prop := v = some (.long (own_fst p3 q4)) ∧ Fr n0 L ∧ h = h0
set_option maxRecDepth 65536 in
set_option maxHeartbeats 40000000 in
theorem rm4 (l : Launch) (Z : State) (a0 : Array Value) (hw : ∀ d ∈ tables_1, d.before a0 Z = true) (ws : List Jvm.Cond) (a1 : Addr) (p3 : Int32) (q4 : Int64) (h0 : Heap) (n0 : Nat) (Z0 : n0 ≤ h0.size) (F0_0 : Fld Z h0 a1 "com/example/tattle/tattle/antientropy/HashTrees$Node" "depth" "I" (.int p3)) (F0_1 : Fld Z h0 a1 "com/example/tattle/tattle/antientropy/HashTrees$Node" "prefix" "J" (.long q4)) :
    MetFree l (⟨"com/example/tattle/tattle/antientropy/HashTrees$Node", "first", "()J"⟩ : MethodName) (head1 (Jvm.Cond.code (⟨"com/example/tattle/tattle/antientropy/HashTrees$Node", "first", "()J"⟩ : MethodName) prog_9_method_6_code 1 (some .long) :: ws) ({ frames := 0, cells := 0, slots := 0, locals := 0 } : Room)) (fun a U => a = #[(.ref a1)] ∧ Z.Warmed39 U.vm ∧ U.heap = h0) (fun _ _ _ _ _ => True) (fun _ U o U' => ∃ v L, o = .returned v ∧ Q4 Z a1 p3 q4 h0 n0 v U'.heap L ∧ FrameEnd U o U' L ({ frames := 0, cells := 0, slots := 0, locals := 0 } : Room).cells ({ frames := 0, cells := 0, slots := 0, locals := 0 } : Room).slots) := by
  refine MetFree.of_bodySF (plainFor_of_name pn_HashTrees_Node) hisR ?_
  intro p e s m args below meth c s₁ Bd hml0 hP hK
  obtain ⟨rfl, hZ, hh⟩ := hP
  have hx := Bd.exec
  have hby := Bd.bytes
  have hml : c.maxLocals = 1 := hml0
  have hown : s.vm.findClass "com/example/tattle/tattle/antientropy/HashTrees$Node" = some m.cls := findClass_of_methodNamed Bd.named
  have hnm := (name_of_methodNamed Bd.named Bd.method).1
  have X0 : Stand p l e ({ frames := 0, cells := 0, slots := 0, locals := 0 } : Room) s m #[(.ref a1)] below meth c s₁ [] 0 0 := Stand.of_body Bd
  have e0 : s₁.heap = h0 := by rw [← hh, Bd.state]; rfl
  have N0 := Fr.nil n0
  refine Gd.out (Gd.st (fun t k => castTop (ef_4 m a1) k) ?_)
  show Gd p.tables e below _ (s₁.setTop (mkF m 0 #[.val (.ref a1)] []))
  refine Gd.st (fun _ k => XS.aloadN X0.here hx rfl (hb hby d4_0) rfl rfl k) ?_
  show Gd p.tables e below _ (s₁.setTop (mkF m 1 #[.val (.ref a1)] [(.ref a1)]))
  obtain ⟨T1, X1, e1, st1⟩ := getF X0 hx hZ hown (host := "") (Or.inl (hw _ (List.mem_of_getElem? (i := 17) rfl))) Via.refl e0 F0_0 (g := (mkF m 1 #[.val (.ref a1)] [(.ref a1)])) rfl rfl (hb hby d4_1)
  refine Gd.st st1 ?_
  show Gd p.tables e below _ (T1.setTop (mkF m 4 #[.val (.ref a1)] [(.int p3)]))
  by_cases hc4 : p3 = (0 : Int32)
  · skip
    refine Gd.st (fun _ k => XS.ifNo X1.here hx rfl (hb hby d4_4) rfl ((if0 _ _).trans (teq hc4).2) k) ?_
    show Gd p.tables e below _ (T1.setTop (mkF m 7 #[.val (.ref a1)] []))
    refine Gd.st (fun _ k => XS.lconst X1.here hx rfl (hb hby d4_7) k) ?_
    show Gd p.tables e below _ (T1.setTop (mkF m 8 #[.val (.ref a1)] [(.long (0 : Int64))]))
    refine Gd.st (fun _ k => XS.goto X1.here hx rfl (pc0 := 8) (pc' := 25) rfl (hb hby d4_8) (by decide) (by decide) k) ?_
    show Gd p.tables e below _ (T1.setTop (mkF m 25 #[.val (.ref a1)] [(.long (0 : Int64))]))
    obtain ⟨fs, hr, hrun, hended, hW, hsame⟩ := X1.leave (v := some (.long (0 : Int64))) (fun h => by rw [Bd.returns] at h; cases h) Bd.notSynchronized
    refine Gd.mk (o := .returned (some (.long (0 : Int64)))) (X1.lreturnOut hx Bd.returns (hb hby d4_25) hr) ⟨hrun, hended, _, _, rfl, ?_, ⟨_, rfl⟩, hW, hsame.mono (by decide) (by decide)⟩
    show Q4 Z a1 p3 q4 h0 n0 _ T1.heap _
    rw [e1]
    exact ⟨(by first | (simp only [own_fst, eq_true hc4, not_true_eq_false, not_false_eq_true, and_true, true_and, and_false, false_and, or_true, true_or, or_false, false_or, if_true, if_false]; done) | simp [own_fst, eq_true hc4]), N0, rfl⟩
  · skip
    refine Gd.st (fun _ k => XS.ifYes X1.here hx rfl (pc0 := 4) (pc' := 11) rfl (hb hby d4_4) rfl ((if0 _ _).trans (feq hc4).2) (by decide) (by decide) k) ?_
    show Gd p.tables e below _ (T1.setTop (mkF m 11 #[.val (.ref a1)] []))
    refine Gd.st (fun _ k => XS.aloadN X1.here hx rfl (hb hby d4_11) rfl rfl k) ?_
    show Gd p.tables e below _ (T1.setTop (mkF m 12 #[.val (.ref a1)] [(.ref a1)]))
    obtain ⟨T2, X2, e2, st2⟩ := getF X1 hx hZ hown (host := "") (Or.inl (hw _ (List.mem_of_getElem? (i := 19) rfl))) Via.refl e1 F0_1 (g := (mkF m 12 #[.val (.ref a1)] [(.ref a1)])) rfl rfl (hb hby d4_12)
    refine Gd.st st2 ?_
    show Gd p.tables e below _ (T2.setTop (mkF m 15 #[.val (.ref a1)] [(.long q4)]))
    refine Gd.st (fun _ k => XS.bipush X2.here hx rfl (hb hby d4_15) k) ?_
    show Gd p.tables e below _ (T2.setTop (mkF m 17 #[.val (.ref a1)] [(.int (64 : Int32)), (.long q4)]))
    refine Gd.st (fun _ k => XS.iconst X2.here hx rfl (hb hby d4_17) k) ?_
    show Gd p.tables e below _ (T2.setTop (mkF m 18 #[.val (.ref a1)] [(.int (4 : Int32)), (.int (64 : Int32)), (.long q4)]))
    refine Gd.st (fun _ k => XS.aloadN X2.here hx rfl (hb hby d4_18) rfl rfl k) ?_
    show Gd p.tables e below _ (T2.setTop (mkF m 19 #[.val (.ref a1)] [(.ref a1), (.int (4 : Int32)), (.int (64 : Int32)), (.long q4)]))
    obtain ⟨T3, X3, e3, st3⟩ := getF X2 hx hZ hown (host := "") (Or.inl (hw _ (List.mem_of_getElem? (i := 17) rfl))) Via.refl e2 F0_0 (g := (mkF m 19 #[.val (.ref a1)] [(.ref a1), (.int (4 : Int32)), (.int (64 : Int32)), (.long q4)])) rfl rfl (hb hby d4_19)
    refine Gd.st st3 ?_
    show Gd p.tables e below _ (T3.setTop (mkF m 22 #[.val (.ref a1)] [(.int p3), (.int (4 : Int32)), (.int (64 : Int32)), (.long q4)]))
    refine Gd.st (fun _ k => XS.imul X3.here hx rfl (hb hby d4_22) rfl k) ?_
    show Gd p.tables e below _ (T3.setTop (mkF m 23 #[.val (.ref a1)] [(.int ((4 : Int32) * p3)), (.int (64 : Int32)), (.long q4)]))
    refine Gd.st (fun _ k => XS.isub X3.here hx rfl (hb hby d4_23) rfl k) ?_
    show Gd p.tables e below _ (T3.setTop (mkF m 24 #[.val (.ref a1)] [(.int (own_s p3)), (.long q4)]))
    refine Gd.st (fun _ k => XS.lshl X3.here hx rfl (hb hby d4_24) rfl k) ?_
    show Gd p.tables e below _ (T3.setTop (mkF m 25 #[.val (.ref a1)] [(.long (q4 <<< ((own_s p3) &&& 0x3f).toInt64))]))
    obtain ⟨fs, hr, hrun, hended, hW, hsame⟩ := X3.leave (v := some (.long (q4 <<< ((own_s p3) &&& 0x3f).toInt64))) (fun h => by rw [Bd.returns] at h; cases h) Bd.notSynchronized
    refine Gd.mk (o := .returned (some (.long (q4 <<< ((own_s p3) &&& 0x3f).toInt64)))) (X3.lreturnOut hx Bd.returns (hb hby d4_25) hr) ⟨hrun, hended, _, _, rfl, ?_, ⟨_, rfl⟩, hW, hsame.mono (by decide) (by decide)⟩
    show Q4 Z a1 p3 q4 h0 n0 _ T3.heap _
    rw [e3]
    exact ⟨(by first | (simp only [own_fst, eq_false hc4, not_true_eq_false, not_false_eq_true, and_true, true_and, and_false, false_and, or_true, true_or, or_false, false_or, if_true, if_false]; done) | simp [own_fst, eq_false hc4]), N0, rfl⟩
theorem d5_0 : decode prog_9_method_4_code 0 = .ok (.aload_n 0, 1) := by decide +kernel
theorem d5_1 : decode prog_9_method_4_code 1 = .ok (.getfield 15, 3) := by decide +kernel
theorem d5_4 : decode prog_9_method_4_code 4 = .ok (.ifCond .eq 22, 3) := by decide +kernel
theorem d5_7 : decode prog_9_method_4_code 7 = .ok (.lload_n 1, 1) := by decide +kernel
theorem d5_8 : decode prog_9_method_4_code 8 = .ok (.bipush 64, 2) := by decide +kernel
theorem d5_10 : decode prog_9_method_4_code 10 = .ok (.iconst 4, 1) := by decide +kernel
theorem d5_11 : decode prog_9_method_4_code 11 = .ok (.aload_n 0, 1) := by decide +kernel
theorem d5_12 : decode prog_9_method_4_code 12 = .ok (.getfield 15, 3) := by decide +kernel
theorem d5_15 : decode prog_9_method_4_code 15 = .ok (.imul, 1) := by decide +kernel
theorem d5_16 : decode prog_9_method_4_code 16 = .ok (.isub, 1) := by decide +kernel
theorem d5_17 : decode prog_9_method_4_code 17 = .ok (.lushr, 1) := by decide +kernel
theorem d5_18 : decode prog_9_method_4_code 18 = .ok (.aload_n 0, 1) := by decide +kernel
theorem d5_19 : decode prog_9_method_4_code 19 = .ok (.getfield 18, 3) := by decide +kernel
theorem d5_22 : decode prog_9_method_4_code 22 = .ok (.lcmp, 1) := by decide +kernel
theorem d5_23 : decode prog_9_method_4_code 23 = .ok (.ifCond .ne 7, 3) := by decide +kernel
theorem d5_26 : decode prog_9_method_4_code 26 = .ok (.iconst 1, 1) := by decide +kernel
theorem d5_27 : decode prog_9_method_4_code 27 = .ok (.goto 4, 3) := by decide +kernel
theorem d5_30 : decode prog_9_method_4_code 30 = .ok (.iconst 0, 1) := by decide +kernel
theorem d5_31 : decode prog_9_method_4_code 31 = .ok (.ireturn, 1) := by decide +kernel
theorem ef_5 (m : MethodId) (x0 : Addr) (x1 : Int64) : entryFrame m #[(.ref x0), (.long x1)] 3 = mkF m 0 #[.val (.ref x0), .val (.long x1), .second] [] := by first | (simp [entryFrame, mkF, argsToLocals, Value.category]; done) | rfl
def Q5 (Z : State) (a1 : Addr) (q2 : Int64) (p3 : Int32) (q4 : Int64) (h0 : Heap) (n0 : Nat) (v : Option Value) (h : Heap) (L : List Loc) : Prop := v = some (.int (own_cov p3 q4 q2)) ∧ Fr n0 L ∧ h = h0
set_option maxRecDepth 65536 in
set_option maxHeartbeats 40000000 in
theorem rm5 (l : Launch) (Z : State) (a0 : Array Value) (hw : ∀ d ∈ tables_1, d.before a0 Z = true) (ws : List Jvm.Cond) (a1 : Addr) (q2 : Int64) (p3 : Int32) (q4 : Int64) (h0 : Heap) (n0 : Nat) (Z0 : n0 ≤ h0.size) (F0_0 : Fld Z h0 a1 "com/example/tattle/tattle/antientropy/HashTrees$Node" "depth" "I" (.int p3)) (F0_1 : Fld Z h0 a1 "com/example/tattle/tattle/antientropy/HashTrees$Node" "prefix" "J" (.long q4)) :
    MetFree l (⟨"com/example/tattle/tattle/antientropy/HashTrees$Node", "covers", "(J)Z"⟩ : MethodName) (head1 (Jvm.Cond.code (⟨"com/example/tattle/tattle/antientropy/HashTrees$Node", "covers", "(J)Z"⟩ : MethodName) prog_9_method_4_code 3 (some .boolean) :: ws) ({ frames := 0, cells := 0, slots := 0, locals := 0 } : Room)) (fun a U => a = #[(.ref a1), (.long q2)] ∧ Z.Warmed39 U.vm ∧ U.heap = h0) (fun _ _ _ _ _ => True) (fun _ U o U' => ∃ v L, o = .returned v ∧ Q5 Z a1 q2 p3 q4 h0 n0 v U'.heap L ∧ FrameEnd U o U' L ({ frames := 0, cells := 0, slots := 0, locals := 0 } : Room).cells ({ frames := 0, cells := 0, slots := 0, locals := 0 } : Room).slots) := by
  refine MetFree.of_bodySF (plainFor_of_name pn_HashTrees_Node) hisR ?_
  intro p e s m args below meth c s₁ Bd hml0 hP hK
  obtain ⟨rfl, hZ, hh⟩ := hP
  have hx := Bd.exec
  have hby := Bd.bytes
  have hml : c.maxLocals = 3 := hml0
  have hown : s.vm.findClass "com/example/tattle/tattle/antientropy/HashTrees$Node" = some m.cls := findClass_of_methodNamed Bd.named
  have hnm := (name_of_methodNamed Bd.named Bd.method).1
  have X0 : Stand p l e ({ frames := 0, cells := 0, slots := 0, locals := 0 } : Room) s m #[(.ref a1), (.long q2)] below meth c s₁ [] 0 0 := Stand.of_body Bd
  have e0 : s₁.heap = h0 := by rw [← hh, Bd.state]; rfl
  have N0 := Fr.nil n0
  refine Gd.out (Gd.st (fun t k => castTop (ef_5 m a1 q2) k) ?_)
  show Gd p.tables e below _ (s₁.setTop (mkF m 0 #[.val (.ref a1), .val (.long q2), .second] []))
  refine Gd.st (fun _ k => XS.aloadN X0.here hx rfl (hb hby d5_0) rfl rfl k) ?_
  show Gd p.tables e below _ (s₁.setTop (mkF m 1 #[.val (.ref a1), .val (.long q2), .second] [(.ref a1)]))
  obtain ⟨T1, X1, e1, st1⟩ := getF X0 hx hZ hown (host := "") (Or.inl (hw _ (List.mem_of_getElem? (i := 17) rfl))) Via.refl e0 F0_0 (g := (mkF m 1 #[.val (.ref a1), .val (.long q2), .second] [(.ref a1)])) rfl rfl (hb hby d5_1)
  refine Gd.st st1 ?_
  show Gd p.tables e below _ (T1.setTop (mkF m 4 #[.val (.ref a1), .val (.long q2), .second] [(.int p3)]))
  by_cases hc4 : p3 = (0 : Int32)
  · skip
    refine Gd.st (fun _ k => XS.ifYes X1.here hx rfl (pc0 := 4) (pc' := 26) rfl (hb hby d5_4) rfl ((if0 _ _).trans (teq hc4).1) (by decide) (by decide) k) ?_
    show Gd p.tables e below _ (T1.setTop (mkF m 26 #[.val (.ref a1), .val (.long q2), .second] []))
    refine Gd.st (fun _ k => XS.iconst X1.here hx rfl (hb hby d5_26) k) ?_
    show Gd p.tables e below _ (T1.setTop (mkF m 27 #[.val (.ref a1), .val (.long q2), .second] [(.int (1 : Int32))]))
    refine Gd.st (fun _ k => XS.goto X1.here hx rfl (pc0 := 27) (pc' := 31) rfl (hb hby d5_27) (by decide) (by decide) k) ?_
    show Gd p.tables e below _ (T1.setTop (mkF m 31 #[.val (.ref a1), .val (.long q2), .second] [(.int (1 : Int32))]))
    obtain ⟨fs, hr, hrun, hended, hW, hsame⟩ := X1.leave (v := some (.int (1 : Int32))) (fun h => by rw [Bd.returns] at h; cases h) Bd.notSynchronized
    refine Gd.mk (o := .returned (some (.int (1 : Int32)))) (retN X1 hx (t := .boolean) Bd.returns (by simp) (hb hby d5_31) hr) ⟨hrun, hended, _, _, rfl, ?_, ⟨_, rfl⟩, hW, hsame.mono (by decide) (by decide)⟩
    show Q5 Z a1 q2 p3 q4 h0 n0 _ T1.heap _
    rw [e1]
    exact ⟨(by first | (simp only [own_cov, eq_true hc4, not_true_eq_false, not_false_eq_true, and_true, true_and, and_false, false_and, or_true, true_or, or_false, false_or, if_true, if_false]; done) | simp [own_cov, eq_true hc4]), N0, rfl⟩
  · skip
    refine Gd.st (fun _ k => XS.ifNo X1.here hx rfl (hb hby d5_4) rfl ((if0 _ _).trans (feq hc4).1) k) ?_
    show Gd p.tables e below _ (T1.setTop (mkF m 7 #[.val (.ref a1), .val (.long q2), .second] []))
    refine Gd.st (fun _ k => XS.lloadN X1.here hx rfl (hb hby d5_7) rfl k) ?_
    show Gd p.tables e below _ (T1.setTop (mkF m 8 #[.val (.ref a1), .val (.long q2), .second] [(.long q2)]))
    refine Gd.st (fun _ k => XS.bipush X1.here hx rfl (hb hby d5_8) k) ?_
    show Gd p.tables e below _ (T1.setTop (mkF m 10 #[.val (.ref a1), .val (.long q2), .second] [(.int (64 : Int32)), (.long q2)]))
    refine Gd.st (fun _ k => XS.iconst X1.here hx rfl (hb hby d5_10) k) ?_
    show Gd p.tables e below _ (T1.setTop (mkF m 11 #[.val (.ref a1), .val (.long q2), .second] [(.int (4 : Int32)), (.int (64 : Int32)), (.long q2)]))
    refine Gd.st (fun _ k => XS.aloadN X1.here hx rfl (hb hby d5_11) rfl rfl k) ?_
    show Gd p.tables e below _ (T1.setTop (mkF m 12 #[.val (.ref a1), .val (.long q2), .second] [(.ref a1), (.int (4 : Int32)), (.int (64 : Int32)), (.long q2)]))
    obtain ⟨T2, X2, e2, st2⟩ := getF X1 hx hZ hown (host := "") (Or.inl (hw _ (List.mem_of_getElem? (i := 17) rfl))) Via.refl e1 F0_0 (g := (mkF m 12 #[.val (.ref a1), .val (.long q2), .second] [(.ref a1), (.int (4 : Int32)), (.int (64 : Int32)), (.long q2)])) rfl rfl (hb hby d5_12)
    refine Gd.st st2 ?_
    show Gd p.tables e below _ (T2.setTop (mkF m 15 #[.val (.ref a1), .val (.long q2), .second] [(.int p3), (.int (4 : Int32)), (.int (64 : Int32)), (.long q2)]))
    refine Gd.st (fun _ k => XS.imul X2.here hx rfl (hb hby d5_15) rfl k) ?_
    show Gd p.tables e below _ (T2.setTop (mkF m 16 #[.val (.ref a1), .val (.long q2), .second] [(.int ((4 : Int32) * p3)), (.int (64 : Int32)), (.long q2)]))
    refine Gd.st (fun _ k => XS.isub X2.here hx rfl (hb hby d5_16) rfl k) ?_
    show Gd p.tables e below _ (T2.setTop (mkF m 17 #[.val (.ref a1), .val (.long q2), .second] [(.int (own_s p3)), (.long q2)]))
    refine Gd.st (fun _ k => XS.lushr X2.here hx rfl (hb hby d5_17) rfl k) ?_
    show Gd p.tables e below _ (T2.setTop (mkF m 18 #[.val (.ref a1), .val (.long q2), .second] [(.long ((q2.toUInt64 >>> ((own_s p3) &&& 0x3f).toInt64.toUInt64).toInt64))]))
    refine Gd.st (fun _ k => XS.aloadN X2.here hx rfl (hb hby d5_18) rfl rfl k) ?_
    show Gd p.tables e below _ (T2.setTop (mkF m 19 #[.val (.ref a1), .val (.long q2), .second] [(.ref a1), (.long ((q2.toUInt64 >>> ((own_s p3) &&& 0x3f).toInt64.toUInt64).toInt64))]))
    obtain ⟨T3, X3, e3, st3⟩ := getF X2 hx hZ hown (host := "") (Or.inl (hw _ (List.mem_of_getElem? (i := 19) rfl))) Via.refl e2 F0_1 (g := (mkF m 19 #[.val (.ref a1), .val (.long q2), .second] [(.ref a1), (.long ((q2.toUInt64 >>> ((own_s p3) &&& 0x3f).toInt64.toUInt64).toInt64))])) rfl rfl (hb hby d5_19)
    refine Gd.st st3 ?_
    show Gd p.tables e below _ (T3.setTop (mkF m 22 #[.val (.ref a1), .val (.long q2), .second] [(.long q4), (.long ((q2.toUInt64 >>> ((own_s p3) &&& 0x3f).toInt64.toUInt64).toInt64))]))
    refine Gd.st (fun _ k => XS.lcmp X3.here hx rfl (hb hby d5_22) rfl k) ?_
    show Gd p.tables e below _ (T3.setTop (mkF m 23 #[.val (.ref a1), .val (.long q2), .second] [(.int (lcmpW ((q2.toUInt64 >>> ((own_s p3) &&& 0x3f).toInt64.toUInt64).toInt64) q4))]))
    by_cases hc23 : ((q2.toUInt64 >>> ((own_s p3) &&& 0x3f).toInt64.toUInt64).toInt64) = q4
    · skip
      refine Gd.st (fun _ k => XS.ifNo X3.here hx rfl (hb hby d5_23) rfl ((if0 _ _).trans (teq ((lw_eq ((q2.toUInt64 >>> ((own_s p3) &&& 0x3f).toInt64.toUInt64).toInt64) q4).mpr hc23)).2) k) ?_
      show Gd p.tables e below _ (T3.setTop (mkF m 26 #[.val (.ref a1), .val (.long q2), .second] []))
      refine Gd.st (fun _ k => XS.iconst X3.here hx rfl (hb hby d5_26) k) ?_
      show Gd p.tables e below _ (T3.setTop (mkF m 27 #[.val (.ref a1), .val (.long q2), .second] [(.int (1 : Int32))]))
      refine Gd.st (fun _ k => XS.goto X3.here hx rfl (pc0 := 27) (pc' := 31) rfl (hb hby d5_27) (by decide) (by decide) k) ?_
      show Gd p.tables e below _ (T3.setTop (mkF m 31 #[.val (.ref a1), .val (.long q2), .second] [(.int (1 : Int32))]))
      obtain ⟨fs, hr, hrun, hended, hW, hsame⟩ := X3.leave (v := some (.int (1 : Int32))) (fun h => by rw [Bd.returns] at h; cases h) Bd.notSynchronized
      refine Gd.mk (o := .returned (some (.int (1 : Int32)))) (retN X3 hx (t := .boolean) Bd.returns (by simp) (hb hby d5_31) hr) ⟨hrun, hended, _, _, rfl, ?_, ⟨_, rfl⟩, hW, hsame.mono (by decide) (by decide)⟩
      show Q5 Z a1 q2 p3 q4 h0 n0 _ T3.heap _
      rw [e3]
      exact ⟨(by first | (simp only [own_cov, eq_false hc4, eq_true hc23, not_true_eq_false, not_false_eq_true, and_true, true_and, and_false, false_and, or_true, true_or, or_false, false_or, if_true, if_false]; done) | simp [own_cov, eq_false hc4, eq_true hc23]), N0, rfl⟩
    · skip
      refine Gd.st (fun _ k => XS.ifYes X3.here hx rfl (pc0 := 23) (pc' := 30) rfl (hb hby d5_23) rfl ((if0 _ _).trans (feq (fun q => hc23 ((lw_eq ((q2.toUInt64 >>> ((own_s p3) &&& 0x3f).toInt64.toUInt64).toInt64) q4).mp q))).2) (by decide) (by decide) k) ?_
      show Gd p.tables e below _ (T3.setTop (mkF m 30 #[.val (.ref a1), .val (.long q2), .second] []))
      refine Gd.st (fun _ k => XS.iconst X3.here hx rfl (hb hby d5_30) k) ?_
      show Gd p.tables e below _ (T3.setTop (mkF m 31 #[.val (.ref a1), .val (.long q2), .second] [(.int (0 : Int32))]))
      obtain ⟨fs, hr, hrun, hended, hW, hsame⟩ := X3.leave (v := some (.int (0 : Int32))) (fun h => by rw [Bd.returns] at h; cases h) Bd.notSynchronized
      refine Gd.mk (o := .returned (some (.int (0 : Int32)))) (retN X3 hx (t := .boolean) Bd.returns (by simp) (hb hby d5_31) hr) ⟨hrun, hended, _, _, rfl, ?_, ⟨_, rfl⟩, hW, hsame.mono (by decide) (by decide)⟩
      show Q5 Z a1 q2 p3 q4 h0 n0 _ T3.heap _
      rw [e3]
      exact ⟨(by first | (simp only [own_cov, eq_false hc4, eq_false hc23, not_true_eq_false, not_false_eq_true, and_true, true_and, and_false, false_and, or_true, true_or, or_false, false_or, if_true, if_false]; done) | simp [own_cov, eq_false hc4, eq_false hc23]), N0, rfl⟩
theorem pn_NodeFirstPinLaw : plainName "com/example/tattle/tattle/antientropy/NodeFirstPinLaw" = true := by first | (simp [plainName, overriddenIn]; done) | decide +kernel
theorem ef_0 (m : MethodId) (x0 : Int32) (x1 : Int32) (x2 : Int64) : entryFrame m #[(.int x0), (.int x1), (.long x2)] maxLocals = mkF m 0 #[.val (.int x0), .val (.int x1), .val (.long x2), .second, .unset, .unset, .unset, .unset, .unset, .unset, .unset, .unset, .unset, .unset, .unset, .unset, .unset] [] := by first | (simp [entryFrame, mkF, argsToLocals, Value.category, maxLocals]; done) | rfl
theorem pd__IIJ_V_6 : parseMethodDescriptor "(IIJ)V" = some ⟨[.int, .int, .long], none⟩ := by decide +kernel
theorem pd___J_3 : parseMethodDescriptor "()J" = some ⟨[], some .long⟩ := by decide +kernel
theorem pd__J_Z_4 : parseMethodDescriptor "(J)Z" = some ⟨[.long], some .boolean⟩ := by decide +kernel
def Q0 (Z : State) (p1 : Int32) (p2 : Int32) (q3 : Int64) (h0 : Heap) (n0 : Nat) (v : Option Value) (h : Heap) (L : List Loc) : Prop := v = some (.int (1 : Int32)) ∧ Fr n0 L
set_option maxRecDepth 65536 in
set_option maxHeartbeats 40000000 in
theorem rm0 (l : Launch) (Z : State) (a0 : Array Value) (hw : ∀ d ∈ tables_1, d.before a0 Z = true) (ws : List Jvm.Cond) (p1 : Int32) (p2 : Int32) (q3 : Int64) (h0 : Heap) (n0 : Nat) (Z0 : n0 ≤ h0.size) :
    MetFree l x (head1 (Jvm.Cond.code x code maxLocals ret :: ws) room_1) (fun a U => a = #[(.int p1), (.int p2), (.long q3)] ∧ Z.Warmed39 U.vm ∧ U.heap = h0) (fun _ _ _ _ _ => True) (fun _ U o U' => ∃ v L, o = .returned v ∧ Q0 Z p1 p2 q3 h0 n0 v U'.heap L ∧ FrameEnd U o U' L room_1.cells room_1.slots) := by
  refine MetFree.of_bodySF (plainFor_of_name pn_NodeFirstPinLaw) hisR ?_
  intro p e s m args below meth c s₁ Bd hml0 hP hK
  obtain ⟨rfl, hZ, hh⟩ := hP
  have hx := Bd.exec
  have hby := Bd.bytes
  have hml : c.maxLocals = 17 := hml0
  have hown : s.vm.findClass "com/example/tattle/tattle/antientropy/NodeFirstPinLaw" = some m.cls := findClass_of_methodNamed Bd.named
  have hnm := (name_of_methodNamed Bd.named Bd.method).1
  have X0 : Stand p l e room_1 s m #[(.int p1), (.int p2), (.long q3)] below meth c s₁ [] 0 0 := Stand.of_body Bd
  have e0 : s₁.heap = h0 := by rw [← hh, Bd.state]; rfl
  have N0 := Fr.nil n0
  refine Gd.out (Gd.st (fun t k => castTop (ef_0 m p1 p2 q3) k) ?_)
  show Gd p.tables e below _ (s₁.setTop (mkF m 0 #[.val (.int p1), .val (.int p2), .val (.long q3), .second, .unset, .unset, .unset, .unset, .unset, .unset, .unset, .unset, .unset, .unset, .unset, .unset, .unset] []))
  refine Gd.st (fun _ k => XS.iloadN X0.here hx rfl (hb hby at_0) rfl k) ?_
  show Gd p.tables e below _ (s₁.setTop (mkF m 1 #[.val (.int p1), .val (.int p2), .val (.long q3), .second, .unset, .unset, .unset, .unset, .unset, .unset, .unset, .unset, .unset, .unset, .unset, .unset, .unset] [(.int p2)]))
  refine Gd.st (fun _ k => X0.ldcInt hx hown (mvT hZ (hw _ (List.mem_of_getElem? (i := 0) rfl))) (g := (mkF m 1 #[.val (.int p1), .val (.int p2), .val (.long q3), .second, .unset, .unset, .unset, .unset, .unset, .unset, .unset, .unset, .unset, .unset, .unset, .unset, .unset] [(.int p2)])) rfl (hb hby at_1) _ k) ?_
  show Gd p.tables e below _ (s₁.setTop (mkF m 3 #[.val (.int p1), .val (.int p2), .val (.long q3), .second, .unset, .unset, .unset, .unset, .unset, .unset, .unset, .unset, .unset, .unset, .unset, .unset, .unset] [(.int (2147483647 : Int32)), (.int p2)]))
  refine Gd.st (fun _ k => XS.iand X0.here hx rfl (hb hby at_3) rfl k) ?_
  show Gd p.tables e below _ (s₁.setTop (mkF m 4 #[.val (.int p1), .val (.int p2), .val (.long q3), .second, .unset, .unset, .unset, .unset, .unset, .unset, .unset, .unset, .unset, .unset, .unset, .unset, .unset] [(.int (p2 &&& (2147483647 : Int32)))]))
  refine Gd.st (fun _ k => XS.bipush X0.here hx rfl (hb hby at_4) k) ?_
  show Gd p.tables e below _ (s₁.setTop (mkF m 6 #[.val (.int p1), .val (.int p2), .val (.long q3), .second, .unset, .unset, .unset, .unset, .unset, .unset, .unset, .unset, .unset, .unset, .unset, .unset, .unset] [(.int (17 : Int32)), (.int (p2 &&& (2147483647 : Int32)))]))
  refine Gd.st (fun _ k => XS.irem X0.here hx rfl (hb hby at_6) rfl (by decide) k) ?_
  show Gd p.tables e below _ (s₁.setTop (mkF m 7 #[.val (.int p1), .val (.int p2), .val (.long q3), .second, .unset, .unset, .unset, .unset, .unset, .unset, .unset, .unset, .unset, .unset, .unset, .unset, .unset] [(.int (own_d p2))]))
  refine Gd.st (fun _ k => XS.istore X0.here hx rfl (hb hby at_7) rfl (l' := #[.val (.int p1), .val (.int p2), .val (.long q3), .second, .val (.int (own_d p2)), .unset, .unset, .unset, .unset, .unset, .unset, .unset, .unset, .unset, .unset, .unset, .unset]) rfl k) ?_
  show Gd p.tables e below _ (s₁.setTop (mkF m 9 #[.val (.int p1), .val (.int p2), .val (.long q3), .second, .val (.int (own_d p2)), .unset, .unset, .unset, .unset, .unset, .unset, .unset, .unset, .unset, .unset, .unset, .unset] []))
  refine Gd.join (B := s₁.setTop (mkF m 30 #[.val (.int p1), .val (.int p2), .val (.long q3), .second, .val (.int (own_d p2)), .unset, .unset, .unset, .unset, .unset, .unset, .unset, .unset, .unset, .unset, .unset, .unset] [(.long (own_pre (own_d p2) q3))])) (fun J => ?_) ?_
  · skip
    refine Gd.st (fun _ k => XS.iload X0.here hx rfl (hb hby at_9) rfl k) ?_
    show Gd p.tables e below _ (s₁.setTop (mkF m 11 #[.val (.int p1), .val (.int p2), .val (.long q3), .second, .val (.int (own_d p2)), .unset, .unset, .unset, .unset, .unset, .unset, .unset, .unset, .unset, .unset, .unset, .unset] [(.int (own_d p2))]))
    refine Gd.st (fun _ k => XS.bipush X0.here hx rfl (hb hby at_11) k) ?_
    show Gd p.tables e below _ (s₁.setTop (mkF m 13 #[.val (.int p1), .val (.int p2), .val (.long q3), .second, .val (.int (own_d p2)), .unset, .unset, .unset, .unset, .unset, .unset, .unset, .unset, .unset, .unset, .unset, .unset] [(.int (16 : Int32)), (.int (own_d p2))]))
    by_cases hc13 : (own_d p2) = (16 : Int32)
    · skip
      refine Gd.st (fun _ k => XS.icmpNo X0.here hx rfl (hb hby at_13) rfl (teq hc13).2 k) ?_
      show Gd p.tables e below _ (s₁.setTop (mkF m 16 #[.val (.int p1), .val (.int p2), .val (.long q3), .second, .val (.int (own_d p2)), .unset, .unset, .unset, .unset, .unset, .unset, .unset, .unset, .unset, .unset, .unset, .unset] []))
      refine Gd.st (fun _ k => XS.lloadN X0.here hx rfl (hb hby at_16) rfl k) ?_
      show Gd p.tables e below _ (s₁.setTop (mkF m 17 #[.val (.int p1), .val (.int p2), .val (.long q3), .second, .val (.int (own_d p2)), .unset, .unset, .unset, .unset, .unset, .unset, .unset, .unset, .unset, .unset, .unset, .unset] [(.long q3)]))
      refine Gd.st (fun _ k => XS.goto X0.here hx rfl (pc0 := 17) (pc' := 30) rfl (hb hby at_17) (by decide) (by decide) k) ?_
      show Gd p.tables e below _ (s₁.setTop (mkF m 30 #[.val (.int p1), .val (.int p2), .val (.long q3), .second, .val (.int (own_d p2)), .unset, .unset, .unset, .unset, .unset, .unset, .unset, .unset, .unset, .unset, .unset, .unset] [(.long q3)]))
      rw [show (own_pre (own_d p2) q3) = q3 from (by first | (simp only [own_pre, eq_true hc13, not_true_eq_false, not_false_eq_true, and_true, true_and, and_false, false_and, or_true, true_or, or_false, false_or, if_true, if_false]; done) | simp [own_pre, eq_true hc13])] at J
      exact J
    · skip
      refine Gd.st (fun _ k => XS.icmpYes X0.here hx rfl (pc0 := 13) (pc' := 20) rfl (hb hby at_13) rfl (feq hc13).2 (by decide) (by decide) k) ?_
      show Gd p.tables e below _ (s₁.setTop (mkF m 20 #[.val (.int p1), .val (.int p2), .val (.long q3), .second, .val (.int (own_d p2)), .unset, .unset, .unset, .unset, .unset, .unset, .unset, .unset, .unset, .unset, .unset, .unset] []))
      refine Gd.st (fun _ k => XS.lloadN X0.here hx rfl (hb hby at_20) rfl k) ?_
      show Gd p.tables e below _ (s₁.setTop (mkF m 21 #[.val (.int p1), .val (.int p2), .val (.long q3), .second, .val (.int (own_d p2)), .unset, .unset, .unset, .unset, .unset, .unset, .unset, .unset, .unset, .unset, .unset, .unset] [(.long q3)]))
      refine Gd.st (fun _ k => XS.lconst X0.here hx rfl (hb hby at_21) k) ?_
      show Gd p.tables e below _ (s₁.setTop (mkF m 22 #[.val (.int p1), .val (.int p2), .val (.long q3), .second, .val (.int (own_d p2)), .unset, .unset, .unset, .unset, .unset, .unset, .unset, .unset, .unset, .unset, .unset, .unset] [(.long (1 : Int64)), (.long q3)]))
      refine Gd.st (fun _ k => XS.iconst X0.here hx rfl (hb hby at_22) k) ?_
      show Gd p.tables e below _ (s₁.setTop (mkF m 23 #[.val (.int p1), .val (.int p2), .val (.long q3), .second, .val (.int (own_d p2)), .unset, .unset, .unset, .unset, .unset, .unset, .unset, .unset, .unset, .unset, .unset, .unset] [(.int (4 : Int32)), (.long (1 : Int64)), (.long q3)]))
      refine Gd.st (fun _ k => XS.iload X0.here hx rfl (hb hby at_23) rfl k) ?_
      show Gd p.tables e below _ (s₁.setTop (mkF m 25 #[.val (.int p1), .val (.int p2), .val (.long q3), .second, .val (.int (own_d p2)), .unset, .unset, .unset, .unset, .unset, .unset, .unset, .unset, .unset, .unset, .unset, .unset] [(.int (own_d p2)), (.int (4 : Int32)), (.long (1 : Int64)), (.long q3)]))
      refine Gd.st (fun _ k => XS.imul X0.here hx rfl (hb hby at_25) rfl k) ?_
      show Gd p.tables e below _ (s₁.setTop (mkF m 26 #[.val (.int p1), .val (.int p2), .val (.long q3), .second, .val (.int (own_d p2)), .unset, .unset, .unset, .unset, .unset, .unset, .unset, .unset, .unset, .unset, .unset, .unset] [(.int ((4 : Int32) * (own_d p2))), (.long (1 : Int64)), (.long q3)]))
      refine Gd.st (fun _ k => XS.lshl X0.here hx rfl (hb hby at_26) rfl k) ?_
      show Gd p.tables e below _ (s₁.setTop (mkF m 27 #[.val (.int p1), .val (.int p2), .val (.long q3), .second, .val (.int (own_d p2)), .unset, .unset, .unset, .unset, .unset, .unset, .unset, .unset, .unset, .unset, .unset, .unset] [(.long ((1 : Int64) <<< (((4 : Int32) * (own_d p2)) &&& 0x3f).toInt64)), (.long q3)]))
      refine Gd.st (fun _ k => XS.lconst X0.here hx rfl (hb hby at_27) k) ?_
      show Gd p.tables e below _ (s₁.setTop (mkF m 28 #[.val (.int p1), .val (.int p2), .val (.long q3), .second, .val (.int (own_d p2)), .unset, .unset, .unset, .unset, .unset, .unset, .unset, .unset, .unset, .unset, .unset, .unset] [(.long (1 : Int64)), (.long ((1 : Int64) <<< (((4 : Int32) * (own_d p2)) &&& 0x3f).toInt64)), (.long q3)]))
      refine Gd.st (fun _ k => XS.lsub X0.here hx rfl (hb hby at_28) rfl k) ?_
      show Gd p.tables e below _ (s₁.setTop (mkF m 29 #[.val (.int p1), .val (.int p2), .val (.long q3), .second, .val (.int (own_d p2)), .unset, .unset, .unset, .unset, .unset, .unset, .unset, .unset, .unset, .unset, .unset, .unset] [(.long (((1 : Int64) <<< (((4 : Int32) * (own_d p2)) &&& 0x3f).toInt64) - (1 : Int64))), (.long q3)]))
      refine Gd.st (fun _ k => XS.land X0.here hx rfl (hb hby at_29) rfl k) ?_
      show Gd p.tables e below _ (s₁.setTop (mkF m 30 #[.val (.int p1), .val (.int p2), .val (.long q3), .second, .val (.int (own_d p2)), .unset, .unset, .unset, .unset, .unset, .unset, .unset, .unset, .unset, .unset, .unset, .unset] [(.long (q3 &&& (((1 : Int64) <<< (((4 : Int32) * (own_d p2)) &&& 0x3f).toInt64) - (1 : Int64))))]))
      rw [show (own_pre (own_d p2) q3) = (q3 &&& (((1 : Int64) <<< (((4 : Int32) * (own_d p2)) &&& 0x3f).toInt64) - (1 : Int64))) from (by first | (simp only [own_pre, eq_false hc13, not_true_eq_false, not_false_eq_true, and_true, true_and, and_false, false_and, or_true, true_or, or_false, false_or, if_true, if_false]; done) | simp [own_pre, eq_false hc13])] at J
      exact J
  show Gd p.tables e below _ (s₁.setTop (mkF m 30 #[.val (.int p1), .val (.int p2), .val (.long q3), .second, .val (.int (own_d p2)), .unset, .unset, .unset, .unset, .unset, .unset, .unset, .unset, .unset, .unset, .unset, .unset] [(.long (own_pre (own_d p2) q3))]))
  refine Gd.st (fun _ k => XS.lstore X0.here hx rfl (hb hby at_30) rfl (l' := #[.val (.int p1), .val (.int p2), .val (.long q3), .second, .val (.int (own_d p2)), .val (.long (own_pre (own_d p2) q3)), .second, .unset, .unset, .unset, .unset, .unset, .unset, .unset, .unset, .unset, .unset]) rfl k) ?_
  show Gd p.tables e below _ (s₁.setTop (mkF m 32 #[.val (.int p1), .val (.int p2), .val (.long q3), .second, .val (.int (own_d p2)), .val (.long (own_pre (own_d p2) q3)), .second, .unset, .unset, .unset, .unset, .unset, .unset, .unset, .unset, .unset, .unset] []))
  obtain ⟨T1, h1, X1, e1, E1, A1, D1, -, st1⟩ := newO X0 hx hZ hown (hw _ (List.mem_of_getElem? (i := 1) rfl)) (hw _ (List.mem_of_getElem? (i := 2) rfl)) (hw _ (List.mem_of_getElem? (i := 3) rfl)) e0 (g := (mkF m 32 #[.val (.int p1), .val (.int p2), .val (.long q3), .second, .val (.int (own_d p2)), .val (.long (own_pre (own_d p2) q3)), .second, .unset, .unset, .unset, .unset, .unset, .unset, .unset, .unset, .unset, .unset] [])) rfl (hb hby at_32) (by decide) (by decide)
  obtain ⟨b1, g1⟩ : ∃ z, z = h0.size := ⟨_, rfl⟩
  rw [← g1] at A1 D1 st1
  refine Gd.st st1 ?_
  have g_b1 : n0 ≤ b1 := Nat.le_trans Z0 (Nat.le_of_eq g1.symm)
  have Z2 : n0 ≤ h1.size := Nat.le_trans Z0 E1.1
  have F_partition_b1 : Fld Z h1 b1 "com/example/tattle/tattle/antientropy/HashTrees$Node" "partition" "I" (.int (0 : Int32)) := D1 (Or.inr (hw _ (List.mem_of_getElem? (i := 16) rfl))) (ty := .int) (by decide)
  have F_depth_b1 : Fld Z h1 b1 "com/example/tattle/tattle/antientropy/HashTrees$Node" "depth" "I" (.int (0 : Int32)) := D1 (Or.inr (hw _ (List.mem_of_getElem? (i := 18) rfl))) (ty := .int) (by decide)
  have F_prefix_b1 : Fld Z h1 b1 "com/example/tattle/tattle/antientropy/HashTrees$Node" "prefix" "J" (.long (0 : Int64)) := D1 (Or.inr (hw _ (List.mem_of_getElem? (i := 20) rfl))) (ty := .long) (by decide)
  show Gd p.tables e below _ (T1.setTop (mkF m 35 #[.val (.int p1), .val (.int p2), .val (.long q3), .second, .val (.int (own_d p2)), .val (.long (own_pre (own_d p2) q3)), .second, .unset, .unset, .unset, .unset, .unset, .unset, .unset, .unset, .unset, .unset] [(.ref b1)]))
  refine Gd.st (fun _ k => XS.dup X1.here hx rfl (hb hby at_35) rfl rfl k) ?_
  show Gd p.tables e below _ (T1.setTop (mkF m 36 #[.val (.int p1), .val (.int p2), .val (.long q3), .second, .val (.int (own_d p2)), .val (.long (own_pre (own_d p2) q3)), .second, .unset, .unset, .unset, .unset, .unset, .unset, .unset, .unset, .unset, .unset] [(.ref b1), (.ref b1)]))
  refine Gd.st (fun _ k => XS.iloadN X1.here hx rfl (hb hby at_36) rfl k) ?_
  show Gd p.tables e below _ (T1.setTop (mkF m 37 #[.val (.int p1), .val (.int p2), .val (.long q3), .second, .val (.int (own_d p2)), .val (.long (own_pre (own_d p2) q3)), .second, .unset, .unset, .unset, .unset, .unset, .unset, .unset, .unset, .unset, .unset] [(.int p1), (.ref b1), (.ref b1)]))
  refine Gd.st (fun _ k => XS.iload X1.here hx rfl (hb hby at_37) rfl k) ?_
  show Gd p.tables e below _ (T1.setTop (mkF m 39 #[.val (.int p1), .val (.int p2), .val (.long q3), .second, .val (.int (own_d p2)), .val (.long (own_pre (own_d p2) q3)), .second, .unset, .unset, .unset, .unset, .unset, .unset, .unset, .unset, .unset, .unset] [(.int (own_d p2)), (.int p1), (.ref b1), (.ref b1)]))
  refine Gd.st (fun _ k => XS.lload X1.here hx rfl (hb hby at_39) rfl k) ?_
  show Gd p.tables e below _ (T1.setTop (mkF m 41 #[.val (.int p1), .val (.int p2), .val (.long q3), .second, .val (.int (own_d p2)), .val (.long (own_pre (own_d p2) q3)), .second, .unset, .unset, .unset, .unset, .unset, .unset, .unset, .unset, .unset, .unset] [(.long (own_pre (own_d p2) q3)), (.int (own_d p2)), (.int p1), (.ref b1), (.ref b1)]))
  obtain ⟨_, _, ⟨T3, L3, k3, n3⟩, -, X3, ⟨Lc3, hQ3, l3, y3, z3⟩, st3⟩ := X1.specialBack hx (y := (⟨"com/example/tattle/tattle/antientropy/HashTrees$Node", "<init>", "(IIJ)V"⟩ : MethodName)) rfl hown (mvT hZ (hw _ (List.mem_of_getElem? (i := 4) rfl))) (mvT hZ (hw _ (List.mem_of_getElem? (i := 5) rfl))) (mvT hZ (hw _ (List.mem_of_getElem? (i := 6) rfl))) (by decide) (backOf (W := 1) (rm1 l Z a0 hw [] b1 p1 (own_d p2) (own_pre (own_d p2) q3) h1 n0 Z2 A1 F_partition_b1 F_depth_b1 F_prefix_b1 g_b1) hZ (hw _ (List.mem_of_getElem? (i := 6) rfl)) (hw _ (List.mem_of_getElem? (i := 3) rfl)) (by decide) (by decide)) (g := (mkF m 41 #[.val (.int p1), .val (.int p2), .val (.long q3), .second, .val (.int (own_d p2)), .val (.long (own_pre (own_d p2) q3)), .second, .unset, .unset, .unset, .unset, .unset, .unset, .unset, .unset, .unset, .unset] [(.long (own_pre (own_d p2) q3)), (.int (own_d p2)), (.int p1), (.ref b1), (.ref b1)])) rfl (by rw [hml]; rfl) (Steps.refl _) (a := b1) (argsL := [(.int p1), (.int (own_d p2)), (.long (own_pre (own_d p2) q3))]) (rest := [(.ref b1)]) (lenOf pd__IIJ_V_6 rfl) rfl (by show 2 * 0 + _ ≤ _; exact Nat.le_of_eq rfl) (hb hby at_41) (fun _ _ => ⟨rfl, e1, (by decide : 1 + 0 ≤ _), (by decide : 3 + 0 ≤ _)⟩)
  dsimp only [Pt.U, Pt.locs, Pt.cells, Pt.slots] at X3 l3 y3 z3 st3 hQ3
  simp only [Nat.add_zero, Nat.zero_add, Nat.reduceAdd] at y3 z3
  subst y3 z3
  obtain ⟨rfl, N3q, K3, A3, F3_0, F3_1, F3_2⟩ := hQ3
  have N3 : Fr n0 L3 := by rw [l3]; exact Fr.app N0 N3q
  clear l3
  refine Gd.st (fun _ k => st3.trans k) ?_
  have Z4 : n0 ≤ T3.heap.size := Nat.le_trans Z2 K3.1
  show Gd p.tables e below _ (T3.setTop (mkF m 44 #[.val (.int p1), .val (.int p2), .val (.long q3), .second, .val (.int (own_d p2)), .val (.long (own_pre (own_d p2) q3)), .second, .unset, .unset, .unset, .unset, .unset, .unset, .unset, .unset, .unset, .unset] [(.ref b1)]))
  refine Gd.st (fun _ k => XS.astore X3.here hx rfl (hb hby at_44) rfl rfl (l' := #[.val (.int p1), .val (.int p2), .val (.long q3), .second, .val (.int (own_d p2)), .val (.long (own_pre (own_d p2) q3)), .second, .val (.ref b1), .unset, .unset, .unset, .unset, .unset, .unset, .unset, .unset, .unset]) rfl k) ?_
  show Gd p.tables e below _ (T3.setTop (mkF m 46 #[.val (.int p1), .val (.int p2), .val (.long q3), .second, .val (.int (own_d p2)), .val (.long (own_pre (own_d p2) q3)), .second, .val (.ref b1), .unset, .unset, .unset, .unset, .unset, .unset, .unset, .unset, .unset] []))
  refine Gd.st (fun _ k => XS.aload X3.here hx rfl (hb hby at_46) rfl rfl k) ?_
  show Gd p.tables e below _ (T3.setTop (mkF m 48 #[.val (.int p1), .val (.int p2), .val (.long q3), .second, .val (.int (own_d p2)), .val (.long (own_pre (own_d p2) q3)), .second, .val (.ref b1), .unset, .unset, .unset, .unset, .unset, .unset, .unset, .unset, .unset] [(.ref b1)]))
  obtain ⟨cq5, kq5, q5a, q5b, q5c⟩ := isOf hZ rfl A3
  obtain ⟨_, _, ⟨T5, L5, k5, n5⟩, -, X5, ⟨Lc5, hQ5, l5, y5, z5⟩, st5⟩ := X3.virtualBack hx (y := (⟨"com/example/tattle/tattle/antientropy/HashTrees$Node", "first", "()J"⟩ : MethodName)) (z := (⟨"com/example/tattle/tattle/antientropy/HashTrees$Node", "first", "()J"⟩ : MethodName)) hown (mvT hZ (hw _ (List.mem_of_getElem? (i := 21) rfl))) (mvT hZ (hw _ (List.mem_of_getElem? (i := 22) rfl))) (notFace_of_selects (args := #[]) (mvT hZ (hw _ (List.mem_of_getElem? (i := 24) rfl)))) (mvT hZ (hw _ (List.mem_of_getElem? (i := 24) rfl))) (mvT hZ (hw _ (List.mem_of_getElem? (i := 23) rfl))) (by decide) (backOf (W := 0) (rm4 l Z a0 hw [] b1 (own_d p2) (own_pre (own_d p2) q3) T3.heap n0 Z4 F3_1 F3_2) hZ (hw _ (List.mem_of_getElem? (i := 25) rfl)) (hw _ (List.mem_of_getElem? (i := 3) rfl)) (by decide) (by decide)) q5a q5c (g := (mkF m 48 #[.val (.int p1), .val (.int p2), .val (.long q3), .second, .val (.int (own_d p2)), .val (.long (own_pre (own_d p2) q3)), .second, .val (.ref b1), .unset, .unset, .unset, .unset, .unset, .unset, .unset, .unset, .unset] [(.ref b1)])) rfl (by rw [hml]; rfl) (Steps.refl _) (argsL := []) (rest := []) (lenOf pd___J_3 rfl) rfl (by show 2 * 0 + _ ≤ _; exact Nat.le_of_eq rfl) (hb hby at_48) (fun _ _ => ⟨rfl, rfl, (by decide : 1 + 0 ≤ _), (by decide : 3 + 0 ≤ _)⟩)
  dsimp only [Pt.U, Pt.locs, Pt.cells, Pt.slots] at X5 l5 y5 z5 st5 hQ5
  simp only [Nat.add_zero, Nat.zero_add, Nat.reduceAdd] at y5 z5
  subst y5 z5
  obtain ⟨rfl, N5q, eh5⟩ := hQ5
  have N5 : Fr n0 L5 := by rw [l5]; exact Fr.app N3 N5q
  clear l5
  refine Gd.st (fun _ k => st5.trans k) ?_
  have e5 : T5.heap = T3.heap := eh5
  show Gd p.tables e below _ (T5.setTop (mkF m 51 #[.val (.int p1), .val (.int p2), .val (.long q3), .second, .val (.int (own_d p2)), .val (.long (own_pre (own_d p2) q3)), .second, .val (.ref b1), .unset, .unset, .unset, .unset, .unset, .unset, .unset, .unset, .unset] [(.long (own_fst (own_d p2) (own_pre (own_d p2) q3)))]))
  refine Gd.st (fun _ k => XS.lstore X5.here hx rfl (hb hby at_51) rfl (l' := #[.val (.int p1), .val (.int p2), .val (.long q3), .second, .val (.int (own_d p2)), .val (.long (own_pre (own_d p2) q3)), .second, .val (.ref b1), .val (.long (own_fst (own_d p2) (own_pre (own_d p2) q3))), .second, .unset, .unset, .unset, .unset, .unset, .unset, .unset]) rfl k) ?_
  show Gd p.tables e below _ (T5.setTop (mkF m 53 #[.val (.int p1), .val (.int p2), .val (.long q3), .second, .val (.int (own_d p2)), .val (.long (own_pre (own_d p2) q3)), .second, .val (.ref b1), .val (.long (own_fst (own_d p2) (own_pre (own_d p2) q3))), .second, .unset, .unset, .unset, .unset, .unset, .unset, .unset] []))
  refine Gd.st (fun _ k => XS.iload X5.here hx rfl (hb hby at_53) rfl k) ?_
  show Gd p.tables e below _ (T5.setTop (mkF m 55 #[.val (.int p1), .val (.int p2), .val (.long q3), .second, .val (.int (own_d p2)), .val (.long (own_pre (own_d p2) q3)), .second, .val (.ref b1), .val (.long (own_fst (own_d p2) (own_pre (own_d p2) q3))), .second, .unset, .unset, .unset, .unset, .unset, .unset, .unset] [(.int (own_d p2))]))
  by_cases hc55 : (own_d p2) = (0 : Int32)
  · skip
    refine Gd.st (fun _ k => XS.ifNo X5.here hx rfl (hb hby at_55) rfl ((if0 _ _).trans (teq hc55).2) k) ?_
    show Gd p.tables e below _ (T5.setTop (mkF m 58 #[.val (.int p1), .val (.int p2), .val (.long q3), .second, .val (.int (own_d p2)), .val (.long (own_pre (own_d p2) q3)), .second, .val (.ref b1), .val (.long (own_fst (own_d p2) (own_pre (own_d p2) q3))), .second, .unset, .unset, .unset, .unset, .unset, .unset, .unset] []))
    refine Gd.st (fun _ k => XS.lload X5.here hx rfl (hb hby at_58) rfl k) ?_
    show Gd p.tables e below _ (T5.setTop (mkF m 60 #[.val (.int p1), .val (.int p2), .val (.long q3), .second, .val (.int (own_d p2)), .val (.long (own_pre (own_d p2) q3)), .second, .val (.ref b1), .val (.long (own_fst (own_d p2) (own_pre (own_d p2) q3))), .second, .unset, .unset, .unset, .unset, .unset, .unset, .unset] [(.long (own_fst (own_d p2) (own_pre (own_d p2) q3)))]))
    refine Gd.st (fun _ k => XS.lconst X5.here hx rfl (hb hby at_60) k) ?_
    show Gd p.tables e below _ (T5.setTop (mkF m 61 #[.val (.int p1), .val (.int p2), .val (.long q3), .second, .val (.int (own_d p2)), .val (.long (own_pre (own_d p2) q3)), .second, .val (.ref b1), .val (.long (own_fst (own_d p2) (own_pre (own_d p2) q3))), .second, .unset, .unset, .unset, .unset, .unset, .unset, .unset] [(.long (0 : Int64)), (.long (own_fst (own_d p2) (own_pre (own_d p2) q3)))]))
    refine Gd.st (fun _ k => XS.lcmp X5.here hx rfl (hb hby at_61) rfl k) ?_
    show Gd p.tables e below _ (T5.setTop (mkF m 62 #[.val (.int p1), .val (.int p2), .val (.long q3), .second, .val (.int (own_d p2)), .val (.long (own_pre (own_d p2) q3)), .second, .val (.ref b1), .val (.long (own_fst (own_d p2) (own_pre (own_d p2) q3))), .second, .unset, .unset, .unset, .unset, .unset, .unset, .unset] [(.int (lcmpW (own_fst (own_d p2) (own_pre (own_d p2) q3)) (0 : Int64)))]))
    refine Gd.st (fun _ k => XS.ifNo X5.here hx rfl (hb hby at_62) rfl ((if0 _ _).trans (teq ((lw_eq (own_fst (own_d p2) (own_pre (own_d p2) q3)) (0 : Int64)).mpr (own_zero _ _ hc55))).2) k) ?_
    show Gd p.tables e below _ (T5.setTop (mkF m 65 #[.val (.int p1), .val (.int p2), .val (.long q3), .second, .val (.int (own_d p2)), .val (.long (own_pre (own_d p2) q3)), .second, .val (.ref b1), .val (.long (own_fst (own_d p2) (own_pre (own_d p2) q3))), .second, .unset, .unset, .unset, .unset, .unset, .unset, .unset] []))
    refine Gd.st (fun _ k => XS.iconst X5.here hx rfl (hb hby at_65) k) ?_
    show Gd p.tables e below _ (T5.setTop (mkF m 66 #[.val (.int p1), .val (.int p2), .val (.long q3), .second, .val (.int (own_d p2)), .val (.long (own_pre (own_d p2) q3)), .second, .val (.ref b1), .val (.long (own_fst (own_d p2) (own_pre (own_d p2) q3))), .second, .unset, .unset, .unset, .unset, .unset, .unset, .unset] [(.int (1 : Int32))]))
    refine Gd.st (fun _ k => XS.goto X5.here hx rfl (pc0 := 66) (pc' := 70) rfl (hb hby at_66) (by decide) (by decide) k) ?_
    show Gd p.tables e below _ (T5.setTop (mkF m 70 #[.val (.int p1), .val (.int p2), .val (.long q3), .second, .val (.int (own_d p2)), .val (.long (own_pre (own_d p2) q3)), .second, .val (.ref b1), .val (.long (own_fst (own_d p2) (own_pre (own_d p2) q3))), .second, .unset, .unset, .unset, .unset, .unset, .unset, .unset] [(.int (1 : Int32))]))
    obtain ⟨fs, hr, hrun, hended, hW, hsame⟩ := X5.leave (v := some (.int (1 : Int32))) (fun h => by rw [Bd.returns] at h; cases h) Bd.notSynchronized
    refine Gd.mk (o := .returned (some (.int (1 : Int32)))) (retN X5 hx (t := .boolean) Bd.returns (by simp) (hb hby at_70) hr) ⟨hrun, hended, _, _, rfl, ?_, ⟨_, rfl⟩, hW, hsame.mono (by decide) (by decide)⟩
    show Q0 Z p1 p2 q3 h0 n0 _ T5.heap _
    rw [e5]
    exact ⟨rfl, N5⟩
  · skip
    refine Gd.st (fun _ k => XS.ifYes X5.here hx rfl (pc0 := 55) (pc' := 71) rfl (hb hby at_55) rfl ((if0 _ _).trans (feq hc55).2) (by decide) (by decide) k) ?_
    show Gd p.tables e below _ (T5.setTop (mkF m 71 #[.val (.int p1), .val (.int p2), .val (.long q3), .second, .val (.int (own_d p2)), .val (.long (own_pre (own_d p2) q3)), .second, .val (.ref b1), .val (.long (own_fst (own_d p2) (own_pre (own_d p2) q3))), .second, .unset, .unset, .unset, .unset, .unset, .unset, .unset] []))
    refine Gd.st (fun _ k => XS.bipush X5.here hx rfl (hb hby at_71) k) ?_
    show Gd p.tables e below _ (T5.setTop (mkF m 73 #[.val (.int p1), .val (.int p2), .val (.long q3), .second, .val (.int (own_d p2)), .val (.long (own_pre (own_d p2) q3)), .second, .val (.ref b1), .val (.long (own_fst (own_d p2) (own_pre (own_d p2) q3))), .second, .unset, .unset, .unset, .unset, .unset, .unset, .unset] [(.int (64 : Int32))]))
    refine Gd.st (fun _ k => XS.iconst X5.here hx rfl (hb hby at_73) k) ?_
    show Gd p.tables e below _ (T5.setTop (mkF m 74 #[.val (.int p1), .val (.int p2), .val (.long q3), .second, .val (.int (own_d p2)), .val (.long (own_pre (own_d p2) q3)), .second, .val (.ref b1), .val (.long (own_fst (own_d p2) (own_pre (own_d p2) q3))), .second, .unset, .unset, .unset, .unset, .unset, .unset, .unset] [(.int (4 : Int32)), (.int (64 : Int32))]))
    refine Gd.st (fun _ k => XS.iload X5.here hx rfl (hb hby at_74) rfl k) ?_
    show Gd p.tables e below _ (T5.setTop (mkF m 76 #[.val (.int p1), .val (.int p2), .val (.long q3), .second, .val (.int (own_d p2)), .val (.long (own_pre (own_d p2) q3)), .second, .val (.ref b1), .val (.long (own_fst (own_d p2) (own_pre (own_d p2) q3))), .second, .unset, .unset, .unset, .unset, .unset, .unset, .unset] [(.int (own_d p2)), (.int (4 : Int32)), (.int (64 : Int32))]))
    refine Gd.st (fun _ k => XS.imul X5.here hx rfl (hb hby at_76) rfl k) ?_
    show Gd p.tables e below _ (T5.setTop (mkF m 77 #[.val (.int p1), .val (.int p2), .val (.long q3), .second, .val (.int (own_d p2)), .val (.long (own_pre (own_d p2) q3)), .second, .val (.ref b1), .val (.long (own_fst (own_d p2) (own_pre (own_d p2) q3))), .second, .unset, .unset, .unset, .unset, .unset, .unset, .unset] [(.int ((4 : Int32) * (own_d p2))), (.int (64 : Int32))]))
    refine Gd.st (fun _ k => XS.isub X5.here hx rfl (hb hby at_77) rfl k) ?_
    show Gd p.tables e below _ (T5.setTop (mkF m 78 #[.val (.int p1), .val (.int p2), .val (.long q3), .second, .val (.int (own_d p2)), .val (.long (own_pre (own_d p2) q3)), .second, .val (.ref b1), .val (.long (own_fst (own_d p2) (own_pre (own_d p2) q3))), .second, .unset, .unset, .unset, .unset, .unset, .unset, .unset] [(.int (own_s (own_d p2)))]))
    refine Gd.st (fun _ k => XS.istore X5.here hx rfl (hb hby at_78) rfl (l' := #[.val (.int p1), .val (.int p2), .val (.long q3), .second, .val (.int (own_d p2)), .val (.long (own_pre (own_d p2) q3)), .second, .val (.ref b1), .val (.long (own_fst (own_d p2) (own_pre (own_d p2) q3))), .second, .val (.int (own_s (own_d p2))), .unset, .unset, .unset, .unset, .unset, .unset]) rfl k) ?_
    show Gd p.tables e below _ (T5.setTop (mkF m 80 #[.val (.int p1), .val (.int p2), .val (.long q3), .second, .val (.int (own_d p2)), .val (.long (own_pre (own_d p2) q3)), .second, .val (.ref b1), .val (.long (own_fst (own_d p2) (own_pre (own_d p2) q3))), .second, .val (.int (own_s (own_d p2))), .unset, .unset, .unset, .unset, .unset, .unset] []))
    refine Gd.join (B := T5.setTop (mkF m 95 #[.val (.int p1), .val (.int p2), .val (.long q3), .second, .val (.int (own_d p2)), .val (.long (own_pre (own_d p2) q3)), .second, .val (.ref b1), .val (.long (own_fst (own_d p2) (own_pre (own_d p2) q3))), .second, .val (.int (own_s (own_d p2))), .unset, .unset, .unset, .unset, .unset, .unset] [(.long (own_msk (own_d p2)))])) (fun J => ?_) ?_
    · skip
      refine Gd.st (fun _ k => XS.iload X5.here hx rfl (hb hby at_80) rfl k) ?_
      show Gd p.tables e below _ (T5.setTop (mkF m 82 #[.val (.int p1), .val (.int p2), .val (.long q3), .second, .val (.int (own_d p2)), .val (.long (own_pre (own_d p2) q3)), .second, .val (.ref b1), .val (.long (own_fst (own_d p2) (own_pre (own_d p2) q3))), .second, .val (.int (own_s (own_d p2))), .unset, .unset, .unset, .unset, .unset, .unset] [(.int (own_s (own_d p2)))]))
      by_cases hc82 : (own_s (own_d p2)) = (0 : Int32)
      · skip
        refine Gd.st (fun _ k => XS.ifNo X5.here hx rfl (hb hby at_82) rfl ((if0 _ _).trans (teq hc82).2) k) ?_
        show Gd p.tables e below _ (T5.setTop (mkF m 85 #[.val (.int p1), .val (.int p2), .val (.long q3), .second, .val (.int (own_d p2)), .val (.long (own_pre (own_d p2) q3)), .second, .val (.ref b1), .val (.long (own_fst (own_d p2) (own_pre (own_d p2) q3))), .second, .val (.int (own_s (own_d p2))), .unset, .unset, .unset, .unset, .unset, .unset] []))
        refine Gd.st (fun _ k => XS.lconst X5.here hx rfl (hb hby at_85) k) ?_
        show Gd p.tables e below _ (T5.setTop (mkF m 86 #[.val (.int p1), .val (.int p2), .val (.long q3), .second, .val (.int (own_d p2)), .val (.long (own_pre (own_d p2) q3)), .second, .val (.ref b1), .val (.long (own_fst (own_d p2) (own_pre (own_d p2) q3))), .second, .val (.int (own_s (own_d p2))), .unset, .unset, .unset, .unset, .unset, .unset] [(.long (0 : Int64))]))
        refine Gd.st (fun _ k => XS.goto X5.here hx rfl (pc0 := 86) (pc' := 95) rfl (hb hby at_86) (by decide) (by decide) k) ?_
        show Gd p.tables e below _ (T5.setTop (mkF m 95 #[.val (.int p1), .val (.int p2), .val (.long q3), .second, .val (.int (own_d p2)), .val (.long (own_pre (own_d p2) q3)), .second, .val (.ref b1), .val (.long (own_fst (own_d p2) (own_pre (own_d p2) q3))), .second, .val (.int (own_s (own_d p2))), .unset, .unset, .unset, .unset, .unset, .unset] [(.long (0 : Int64))]))
        rw [show (own_msk (own_d p2)) = (0 : Int64) from (by first | (simp only [own_msk, eq_false hc55, eq_true hc82, not_true_eq_false, not_false_eq_true, and_true, true_and, and_false, false_and, or_true, true_or, or_false, false_or, if_true, if_false]; done) | simp [own_msk, eq_false hc55, eq_true hc82])] at J
        exact J
      · skip
        refine Gd.st (fun _ k => XS.ifYes X5.here hx rfl (pc0 := 82) (pc' := 89) rfl (hb hby at_82) rfl ((if0 _ _).trans (feq hc82).2) (by decide) (by decide) k) ?_
        show Gd p.tables e below _ (T5.setTop (mkF m 89 #[.val (.int p1), .val (.int p2), .val (.long q3), .second, .val (.int (own_d p2)), .val (.long (own_pre (own_d p2) q3)), .second, .val (.ref b1), .val (.long (own_fst (own_d p2) (own_pre (own_d p2) q3))), .second, .val (.int (own_s (own_d p2))), .unset, .unset, .unset, .unset, .unset, .unset] []))
        refine Gd.st (fun _ k => XS.lconst X5.here hx rfl (hb hby at_89) k) ?_
        show Gd p.tables e below _ (T5.setTop (mkF m 90 #[.val (.int p1), .val (.int p2), .val (.long q3), .second, .val (.int (own_d p2)), .val (.long (own_pre (own_d p2) q3)), .second, .val (.ref b1), .val (.long (own_fst (own_d p2) (own_pre (own_d p2) q3))), .second, .val (.int (own_s (own_d p2))), .unset, .unset, .unset, .unset, .unset, .unset] [(.long (1 : Int64))]))
        refine Gd.st (fun _ k => XS.iload X5.here hx rfl (hb hby at_90) rfl k) ?_
        show Gd p.tables e below _ (T5.setTop (mkF m 92 #[.val (.int p1), .val (.int p2), .val (.long q3), .second, .val (.int (own_d p2)), .val (.long (own_pre (own_d p2) q3)), .second, .val (.ref b1), .val (.long (own_fst (own_d p2) (own_pre (own_d p2) q3))), .second, .val (.int (own_s (own_d p2))), .unset, .unset, .unset, .unset, .unset, .unset] [(.int (own_s (own_d p2))), (.long (1 : Int64))]))
        refine Gd.st (fun _ k => XS.lshl X5.here hx rfl (hb hby at_92) rfl k) ?_
        show Gd p.tables e below _ (T5.setTop (mkF m 93 #[.val (.int p1), .val (.int p2), .val (.long q3), .second, .val (.int (own_d p2)), .val (.long (own_pre (own_d p2) q3)), .second, .val (.ref b1), .val (.long (own_fst (own_d p2) (own_pre (own_d p2) q3))), .second, .val (.int (own_s (own_d p2))), .unset, .unset, .unset, .unset, .unset, .unset] [(.long ((1 : Int64) <<< ((own_s (own_d p2)) &&& 0x3f).toInt64))]))
        refine Gd.st (fun _ k => XS.lconst X5.here hx rfl (hb hby at_93) k) ?_
        show Gd p.tables e below _ (T5.setTop (mkF m 94 #[.val (.int p1), .val (.int p2), .val (.long q3), .second, .val (.int (own_d p2)), .val (.long (own_pre (own_d p2) q3)), .second, .val (.ref b1), .val (.long (own_fst (own_d p2) (own_pre (own_d p2) q3))), .second, .val (.int (own_s (own_d p2))), .unset, .unset, .unset, .unset, .unset, .unset] [(.long (1 : Int64)), (.long ((1 : Int64) <<< ((own_s (own_d p2)) &&& 0x3f).toInt64))]))
        refine Gd.st (fun _ k => XS.lsub X5.here hx rfl (hb hby at_94) rfl k) ?_
        show Gd p.tables e below _ (T5.setTop (mkF m 95 #[.val (.int p1), .val (.int p2), .val (.long q3), .second, .val (.int (own_d p2)), .val (.long (own_pre (own_d p2) q3)), .second, .val (.ref b1), .val (.long (own_fst (own_d p2) (own_pre (own_d p2) q3))), .second, .val (.int (own_s (own_d p2))), .unset, .unset, .unset, .unset, .unset, .unset] [(.long (((1 : Int64) <<< ((own_s (own_d p2)) &&& 0x3f).toInt64) - (1 : Int64)))]))
        rw [show (own_msk (own_d p2)) = (((1 : Int64) <<< ((own_s (own_d p2)) &&& 0x3f).toInt64) - (1 : Int64)) from (by first | (simp only [own_msk, eq_false hc55, eq_false hc82, not_true_eq_false, not_false_eq_true, and_true, true_and, and_false, false_and, or_true, true_or, or_false, false_or, if_true, if_false]; done) | simp [own_msk, eq_false hc55, eq_false hc82])] at J
        exact J
    show Gd p.tables e below _ (T5.setTop (mkF m 95 #[.val (.int p1), .val (.int p2), .val (.long q3), .second, .val (.int (own_d p2)), .val (.long (own_pre (own_d p2) q3)), .second, .val (.ref b1), .val (.long (own_fst (own_d p2) (own_pre (own_d p2) q3))), .second, .val (.int (own_s (own_d p2))), .unset, .unset, .unset, .unset, .unset, .unset] [(.long (own_msk (own_d p2)))]))
    refine Gd.st (fun _ k => XS.lstore X5.here hx rfl (hb hby at_95) rfl (l' := #[.val (.int p1), .val (.int p2), .val (.long q3), .second, .val (.int (own_d p2)), .val (.long (own_pre (own_d p2) q3)), .second, .val (.ref b1), .val (.long (own_fst (own_d p2) (own_pre (own_d p2) q3))), .second, .val (.int (own_s (own_d p2))), .val (.long (own_msk (own_d p2))), .second, .unset, .unset, .unset, .unset]) rfl k) ?_
    show Gd p.tables e below _ (T5.setTop (mkF m 97 #[.val (.int p1), .val (.int p2), .val (.long q3), .second, .val (.int (own_d p2)), .val (.long (own_pre (own_d p2) q3)), .second, .val (.ref b1), .val (.long (own_fst (own_d p2) (own_pre (own_d p2) q3))), .second, .val (.int (own_s (own_d p2))), .val (.long (own_msk (own_d p2))), .second, .unset, .unset, .unset, .unset] []))
    refine Gd.st (fun _ k => XS.lload X5.here hx rfl (hb hby at_97) rfl k) ?_
    show Gd p.tables e below _ (T5.setTop (mkF m 99 #[.val (.int p1), .val (.int p2), .val (.long q3), .second, .val (.int (own_d p2)), .val (.long (own_pre (own_d p2) q3)), .second, .val (.ref b1), .val (.long (own_fst (own_d p2) (own_pre (own_d p2) q3))), .second, .val (.int (own_s (own_d p2))), .val (.long (own_msk (own_d p2))), .second, .unset, .unset, .unset, .unset] [(.long (own_fst (own_d p2) (own_pre (own_d p2) q3)))]))
    refine Gd.st (fun _ k => XS.iload X5.here hx rfl (hb hby at_99) rfl k) ?_
    show Gd p.tables e below _ (T5.setTop (mkF m 101 #[.val (.int p1), .val (.int p2), .val (.long q3), .second, .val (.int (own_d p2)), .val (.long (own_pre (own_d p2) q3)), .second, .val (.ref b1), .val (.long (own_fst (own_d p2) (own_pre (own_d p2) q3))), .second, .val (.int (own_s (own_d p2))), .val (.long (own_msk (own_d p2))), .second, .unset, .unset, .unset, .unset] [(.int (own_s (own_d p2))), (.long (own_fst (own_d p2) (own_pre (own_d p2) q3)))]))
    refine Gd.st (fun _ k => XS.lushr X5.here hx rfl (hb hby at_101) rfl k) ?_
    show Gd p.tables e below _ (T5.setTop (mkF m 102 #[.val (.int p1), .val (.int p2), .val (.long q3), .second, .val (.int (own_d p2)), .val (.long (own_pre (own_d p2) q3)), .second, .val (.ref b1), .val (.long (own_fst (own_d p2) (own_pre (own_d p2) q3))), .second, .val (.int (own_s (own_d p2))), .val (.long (own_msk (own_d p2))), .second, .unset, .unset, .unset, .unset] [(.long (((own_fst (own_d p2) (own_pre (own_d p2) q3)).toUInt64 >>> ((own_s (own_d p2)) &&& 0x3f).toInt64.toUInt64).toInt64))]))
    refine Gd.st (fun _ k => XS.lload X5.here hx rfl (hb hby at_102) rfl k) ?_
    show Gd p.tables e below _ (T5.setTop (mkF m 104 #[.val (.int p1), .val (.int p2), .val (.long q3), .second, .val (.int (own_d p2)), .val (.long (own_pre (own_d p2) q3)), .second, .val (.ref b1), .val (.long (own_fst (own_d p2) (own_pre (own_d p2) q3))), .second, .val (.int (own_s (own_d p2))), .val (.long (own_msk (own_d p2))), .second, .unset, .unset, .unset, .unset] [(.long (own_pre (own_d p2) q3)), (.long (((own_fst (own_d p2) (own_pre (own_d p2) q3)).toUInt64 >>> ((own_s (own_d p2)) &&& 0x3f).toInt64.toUInt64).toInt64))]))
    refine Gd.st (fun _ k => XS.lcmp X5.here hx rfl (hb hby at_104) rfl k) ?_
    show Gd p.tables e below _ (T5.setTop (mkF m 105 #[.val (.int p1), .val (.int p2), .val (.long q3), .second, .val (.int (own_d p2)), .val (.long (own_pre (own_d p2) q3)), .second, .val (.ref b1), .val (.long (own_fst (own_d p2) (own_pre (own_d p2) q3))), .second, .val (.int (own_s (own_d p2))), .val (.long (own_msk (own_d p2))), .second, .unset, .unset, .unset, .unset] [(.int (lcmpW (((own_fst (own_d p2) (own_pre (own_d p2) q3)).toUInt64 >>> ((own_s (own_d p2)) &&& 0x3f).toInt64.toUInt64).toInt64) (own_pre (own_d p2) q3)))]))
    refine Gd.st (fun _ k => XS.ifNo X5.here hx rfl (hb hby at_105) rfl ((if0 _ _).trans (teq ((lw_eq (((own_fst (own_d p2) (own_pre (own_d p2) q3)).toUInt64 >>> ((own_s (own_d p2)) &&& 0x3f).toInt64.toUInt64).toInt64) (own_pre (own_d p2) q3)).mpr (own_top p2 q3 hc55))).2) k) ?_
    show Gd p.tables e below _ (T5.setTop (mkF m 108 #[.val (.int p1), .val (.int p2), .val (.long q3), .second, .val (.int (own_d p2)), .val (.long (own_pre (own_d p2) q3)), .second, .val (.ref b1), .val (.long (own_fst (own_d p2) (own_pre (own_d p2) q3))), .second, .val (.int (own_s (own_d p2))), .val (.long (own_msk (own_d p2))), .second, .unset, .unset, .unset, .unset] []))
    refine Gd.st (fun _ k => XS.iconst X5.here hx rfl (hb hby at_108) k) ?_
    show Gd p.tables e below _ (T5.setTop (mkF m 109 #[.val (.int p1), .val (.int p2), .val (.long q3), .second, .val (.int (own_d p2)), .val (.long (own_pre (own_d p2) q3)), .second, .val (.ref b1), .val (.long (own_fst (own_d p2) (own_pre (own_d p2) q3))), .second, .val (.int (own_s (own_d p2))), .val (.long (own_msk (own_d p2))), .second, .unset, .unset, .unset, .unset] [(.int (1 : Int32))]))
    refine Gd.st (fun _ k => XS.goto X5.here hx rfl (pc0 := 109) (pc' := 113) rfl (hb hby at_109) (by decide) (by decide) k) ?_
    show Gd p.tables e below _ (T5.setTop (mkF m 113 #[.val (.int p1), .val (.int p2), .val (.long q3), .second, .val (.int (own_d p2)), .val (.long (own_pre (own_d p2) q3)), .second, .val (.ref b1), .val (.long (own_fst (own_d p2) (own_pre (own_d p2) q3))), .second, .val (.int (own_s (own_d p2))), .val (.long (own_msk (own_d p2))), .second, .unset, .unset, .unset, .unset] [(.int (1 : Int32))]))
    refine Gd.st (fun _ k => XS.istore X5.here hx rfl (hb hby at_113) rfl (l' := #[.val (.int p1), .val (.int p2), .val (.long q3), .second, .val (.int (own_d p2)), .val (.long (own_pre (own_d p2) q3)), .second, .val (.ref b1), .val (.long (own_fst (own_d p2) (own_pre (own_d p2) q3))), .second, .val (.int (own_s (own_d p2))), .val (.long (own_msk (own_d p2))), .second, .val (.int (1 : Int32)), .unset, .unset, .unset]) rfl k) ?_
    show Gd p.tables e below _ (T5.setTop (mkF m 115 #[.val (.int p1), .val (.int p2), .val (.long q3), .second, .val (.int (own_d p2)), .val (.long (own_pre (own_d p2) q3)), .second, .val (.ref b1), .val (.long (own_fst (own_d p2) (own_pre (own_d p2) q3))), .second, .val (.int (own_s (own_d p2))), .val (.long (own_msk (own_d p2))), .second, .val (.int (1 : Int32)), .unset, .unset, .unset] []))
    refine Gd.st (fun _ k => XS.lload X5.here hx rfl (hb hby at_115) rfl k) ?_
    show Gd p.tables e below _ (T5.setTop (mkF m 117 #[.val (.int p1), .val (.int p2), .val (.long q3), .second, .val (.int (own_d p2)), .val (.long (own_pre (own_d p2) q3)), .second, .val (.ref b1), .val (.long (own_fst (own_d p2) (own_pre (own_d p2) q3))), .second, .val (.int (own_s (own_d p2))), .val (.long (own_msk (own_d p2))), .second, .val (.int (1 : Int32)), .unset, .unset, .unset] [(.long (own_fst (own_d p2) (own_pre (own_d p2) q3)))]))
    refine Gd.st (fun _ k => XS.lload X5.here hx rfl (hb hby at_117) rfl k) ?_
    show Gd p.tables e below _ (T5.setTop (mkF m 119 #[.val (.int p1), .val (.int p2), .val (.long q3), .second, .val (.int (own_d p2)), .val (.long (own_pre (own_d p2) q3)), .second, .val (.ref b1), .val (.long (own_fst (own_d p2) (own_pre (own_d p2) q3))), .second, .val (.int (own_s (own_d p2))), .val (.long (own_msk (own_d p2))), .second, .val (.int (1 : Int32)), .unset, .unset, .unset] [(.long (own_msk (own_d p2))), (.long (own_fst (own_d p2) (own_pre (own_d p2) q3)))]))
    refine Gd.st (fun _ k => XS.land X5.here hx rfl (hb hby at_119) rfl k) ?_
    show Gd p.tables e below _ (T5.setTop (mkF m 120 #[.val (.int p1), .val (.int p2), .val (.long q3), .second, .val (.int (own_d p2)), .val (.long (own_pre (own_d p2) q3)), .second, .val (.ref b1), .val (.long (own_fst (own_d p2) (own_pre (own_d p2) q3))), .second, .val (.int (own_s (own_d p2))), .val (.long (own_msk (own_d p2))), .second, .val (.int (1 : Int32)), .unset, .unset, .unset] [(.long ((own_fst (own_d p2) (own_pre (own_d p2) q3)) &&& (own_msk (own_d p2))))]))
    refine Gd.st (fun _ k => XS.lconst X5.here hx rfl (hb hby at_120) k) ?_
    show Gd p.tables e below _ (T5.setTop (mkF m 121 #[.val (.int p1), .val (.int p2), .val (.long q3), .second, .val (.int (own_d p2)), .val (.long (own_pre (own_d p2) q3)), .second, .val (.ref b1), .val (.long (own_fst (own_d p2) (own_pre (own_d p2) q3))), .second, .val (.int (own_s (own_d p2))), .val (.long (own_msk (own_d p2))), .second, .val (.int (1 : Int32)), .unset, .unset, .unset] [(.long (0 : Int64)), (.long ((own_fst (own_d p2) (own_pre (own_d p2) q3)) &&& (own_msk (own_d p2))))]))
    refine Gd.st (fun _ k => XS.lcmp X5.here hx rfl (hb hby at_121) rfl k) ?_
    show Gd p.tables e below _ (T5.setTop (mkF m 122 #[.val (.int p1), .val (.int p2), .val (.long q3), .second, .val (.int (own_d p2)), .val (.long (own_pre (own_d p2) q3)), .second, .val (.ref b1), .val (.long (own_fst (own_d p2) (own_pre (own_d p2) q3))), .second, .val (.int (own_s (own_d p2))), .val (.long (own_msk (own_d p2))), .second, .val (.int (1 : Int32)), .unset, .unset, .unset] [(.int (lcmpW ((own_fst (own_d p2) (own_pre (own_d p2) q3)) &&& (own_msk (own_d p2))) (0 : Int64)))]))
    refine Gd.st (fun _ k => XS.ifNo X5.here hx rfl (hb hby at_122) rfl ((if0 _ _).trans (teq ((lw_eq ((own_fst (own_d p2) (own_pre (own_d p2) q3)) &&& (own_msk (own_d p2))) (0 : Int64)).mpr (own_low0 p2 q3 hc55))).2) k) ?_
    show Gd p.tables e below _ (T5.setTop (mkF m 125 #[.val (.int p1), .val (.int p2), .val (.long q3), .second, .val (.int (own_d p2)), .val (.long (own_pre (own_d p2) q3)), .second, .val (.ref b1), .val (.long (own_fst (own_d p2) (own_pre (own_d p2) q3))), .second, .val (.int (own_s (own_d p2))), .val (.long (own_msk (own_d p2))), .second, .val (.int (1 : Int32)), .unset, .unset, .unset] []))
    refine Gd.st (fun _ k => XS.iconst X5.here hx rfl (hb hby at_125) k) ?_
    show Gd p.tables e below _ (T5.setTop (mkF m 126 #[.val (.int p1), .val (.int p2), .val (.long q3), .second, .val (.int (own_d p2)), .val (.long (own_pre (own_d p2) q3)), .second, .val (.ref b1), .val (.long (own_fst (own_d p2) (own_pre (own_d p2) q3))), .second, .val (.int (own_s (own_d p2))), .val (.long (own_msk (own_d p2))), .second, .val (.int (1 : Int32)), .unset, .unset, .unset] [(.int (1 : Int32))]))
    refine Gd.st (fun _ k => XS.goto X5.here hx rfl (pc0 := 126) (pc' := 130) rfl (hb hby at_126) (by decide) (by decide) k) ?_
    show Gd p.tables e below _ (T5.setTop (mkF m 130 #[.val (.int p1), .val (.int p2), .val (.long q3), .second, .val (.int (own_d p2)), .val (.long (own_pre (own_d p2) q3)), .second, .val (.ref b1), .val (.long (own_fst (own_d p2) (own_pre (own_d p2) q3))), .second, .val (.int (own_s (own_d p2))), .val (.long (own_msk (own_d p2))), .second, .val (.int (1 : Int32)), .unset, .unset, .unset] [(.int (1 : Int32))]))
    refine Gd.st (fun _ k => XS.istore X5.here hx rfl (hb hby at_130) rfl (l' := #[.val (.int p1), .val (.int p2), .val (.long q3), .second, .val (.int (own_d p2)), .val (.long (own_pre (own_d p2) q3)), .second, .val (.ref b1), .val (.long (own_fst (own_d p2) (own_pre (own_d p2) q3))), .second, .val (.int (own_s (own_d p2))), .val (.long (own_msk (own_d p2))), .second, .val (.int (1 : Int32)), .val (.int (1 : Int32)), .unset, .unset]) rfl k) ?_
    show Gd p.tables e below _ (T5.setTop (mkF m 132 #[.val (.int p1), .val (.int p2), .val (.long q3), .second, .val (.int (own_d p2)), .val (.long (own_pre (own_d p2) q3)), .second, .val (.ref b1), .val (.long (own_fst (own_d p2) (own_pre (own_d p2) q3))), .second, .val (.int (own_s (own_d p2))), .val (.long (own_msk (own_d p2))), .second, .val (.int (1 : Int32)), .val (.int (1 : Int32)), .unset, .unset] []))
    refine Gd.st (fun _ k => XS.aload X5.here hx rfl (hb hby at_132) rfl rfl k) ?_
    show Gd p.tables e below _ (T5.setTop (mkF m 134 #[.val (.int p1), .val (.int p2), .val (.long q3), .second, .val (.int (own_d p2)), .val (.long (own_pre (own_d p2) q3)), .second, .val (.ref b1), .val (.long (own_fst (own_d p2) (own_pre (own_d p2) q3))), .second, .val (.int (own_s (own_d p2))), .val (.long (own_msk (own_d p2))), .second, .val (.int (1 : Int32)), .val (.int (1 : Int32)), .unset, .unset] [(.ref b1)]))
    refine Gd.st (fun _ k => XS.lload X5.here hx rfl (hb hby at_134) rfl k) ?_
    show Gd p.tables e below _ (T5.setTop (mkF m 136 #[.val (.int p1), .val (.int p2), .val (.long q3), .second, .val (.int (own_d p2)), .val (.long (own_pre (own_d p2) q3)), .second, .val (.ref b1), .val (.long (own_fst (own_d p2) (own_pre (own_d p2) q3))), .second, .val (.int (own_s (own_d p2))), .val (.long (own_msk (own_d p2))), .second, .val (.int (1 : Int32)), .val (.int (1 : Int32)), .unset, .unset] [(.long (own_fst (own_d p2) (own_pre (own_d p2) q3))), (.ref b1)]))
    obtain ⟨cq6, kq6, q6a, q6b, q6c⟩ := isOf hZ e5 A3
    obtain ⟨_, _, ⟨T6, L6, k6, n6⟩, -, X6, ⟨Lc6, hQ6, l6, y6, z6⟩, st6⟩ := X5.virtualBack hx (y := (⟨"com/example/tattle/tattle/antientropy/HashTrees$Node", "covers", "(J)Z"⟩ : MethodName)) (z := (⟨"com/example/tattle/tattle/antientropy/HashTrees$Node", "covers", "(J)Z"⟩ : MethodName)) hown (mvT hZ (hw _ (List.mem_of_getElem? (i := 26) rfl))) (mvT hZ (hw _ (List.mem_of_getElem? (i := 27) rfl))) (notFace_of_selects (args := #[]) (mvT hZ (hw _ (List.mem_of_getElem? (i := 29) rfl)))) (mvT hZ (hw _ (List.mem_of_getElem? (i := 29) rfl))) (mvT hZ (hw _ (List.mem_of_getElem? (i := 28) rfl))) (by decide) (backOf (W := 0) (rm5 l Z a0 hw [] b1 (own_fst (own_d p2) (own_pre (own_d p2) q3)) (own_d p2) (own_pre (own_d p2) q3) T3.heap n0 Z4 F3_1 F3_2) hZ (hw _ (List.mem_of_getElem? (i := 30) rfl)) (hw _ (List.mem_of_getElem? (i := 3) rfl)) (by decide) (by decide)) q6a q6c (g := (mkF m 136 #[.val (.int p1), .val (.int p2), .val (.long q3), .second, .val (.int (own_d p2)), .val (.long (own_pre (own_d p2) q3)), .second, .val (.ref b1), .val (.long (own_fst (own_d p2) (own_pre (own_d p2) q3))), .second, .val (.int (own_s (own_d p2))), .val (.long (own_msk (own_d p2))), .second, .val (.int (1 : Int32)), .val (.int (1 : Int32)), .unset, .unset] [(.long (own_fst (own_d p2) (own_pre (own_d p2) q3))), (.ref b1)])) rfl (by rw [hml]; rfl) (Steps.refl _) (argsL := [(.long (own_fst (own_d p2) (own_pre (own_d p2) q3)))]) (rest := []) (lenOf pd__J_Z_4 rfl) rfl (by show 2 * 0 + _ ≤ _; exact Nat.le_of_eq rfl) (hb hby at_136) (fun _ _ => ⟨rfl, e5, (by decide : 1 + 0 ≤ _), (by decide : 3 + 0 ≤ _)⟩)
    dsimp only [Pt.U, Pt.locs, Pt.cells, Pt.slots] at X6 l6 y6 z6 st6 hQ6
    simp only [Nat.add_zero, Nat.zero_add, Nat.reduceAdd] at y6 z6
    subst y6 z6
    obtain ⟨rfl, N6q, eh6⟩ := hQ6
    have N6 : Fr n0 L6 := by rw [l6]; exact Fr.app N5 N6q
    clear l6
    refine Gd.st (fun _ k => st6.trans k) ?_
    have e6 : T6.heap = T3.heap := eh6
    show Gd p.tables e below _ (T6.setTop (mkF m 139 #[.val (.int p1), .val (.int p2), .val (.long q3), .second, .val (.int (own_d p2)), .val (.long (own_pre (own_d p2) q3)), .second, .val (.ref b1), .val (.long (own_fst (own_d p2) (own_pre (own_d p2) q3))), .second, .val (.int (own_s (own_d p2))), .val (.long (own_msk (own_d p2))), .second, .val (.int (1 : Int32)), .val (.int (1 : Int32)), .unset, .unset] [(.int (own_cov (own_d p2) (own_pre (own_d p2) q3) (own_fst (own_d p2) (own_pre (own_d p2) q3))))]))
    refine Gd.st (fun _ k => XS.istore X6.here hx rfl (hb hby at_139) rfl (l' := #[.val (.int p1), .val (.int p2), .val (.long q3), .second, .val (.int (own_d p2)), .val (.long (own_pre (own_d p2) q3)), .second, .val (.ref b1), .val (.long (own_fst (own_d p2) (own_pre (own_d p2) q3))), .second, .val (.int (own_s (own_d p2))), .val (.long (own_msk (own_d p2))), .second, .val (.int (1 : Int32)), .val (.int (1 : Int32)), .val (.int (own_cov (own_d p2) (own_pre (own_d p2) q3) (own_fst (own_d p2) (own_pre (own_d p2) q3)))), .unset]) rfl k) ?_
    show Gd p.tables e below _ (T6.setTop (mkF m 141 #[.val (.int p1), .val (.int p2), .val (.long q3), .second, .val (.int (own_d p2)), .val (.long (own_pre (own_d p2) q3)), .second, .val (.ref b1), .val (.long (own_fst (own_d p2) (own_pre (own_d p2) q3))), .second, .val (.int (own_s (own_d p2))), .val (.long (own_msk (own_d p2))), .second, .val (.int (1 : Int32)), .val (.int (1 : Int32)), .val (.int (own_cov (own_d p2) (own_pre (own_d p2) q3) (own_fst (own_d p2) (own_pre (own_d p2) q3)))), .unset] []))
    refine Gd.st (fun _ k => XS.lload X6.here hx rfl (hb hby at_141) rfl k) ?_
    show Gd p.tables e below _ (T6.setTop (mkF m 143 #[.val (.int p1), .val (.int p2), .val (.long q3), .second, .val (.int (own_d p2)), .val (.long (own_pre (own_d p2) q3)), .second, .val (.ref b1), .val (.long (own_fst (own_d p2) (own_pre (own_d p2) q3))), .second, .val (.int (own_s (own_d p2))), .val (.long (own_msk (own_d p2))), .second, .val (.int (1 : Int32)), .val (.int (1 : Int32)), .val (.int (own_cov (own_d p2) (own_pre (own_d p2) q3) (own_fst (own_d p2) (own_pre (own_d p2) q3)))), .unset] [(.long (own_fst (own_d p2) (own_pre (own_d p2) q3)))]))
    refine Gd.st (fun _ k => XS.lconst X6.here hx rfl (hb hby at_143) k) ?_
    show Gd p.tables e below _ (T6.setTop (mkF m 144 #[.val (.int p1), .val (.int p2), .val (.long q3), .second, .val (.int (own_d p2)), .val (.long (own_pre (own_d p2) q3)), .second, .val (.ref b1), .val (.long (own_fst (own_d p2) (own_pre (own_d p2) q3))), .second, .val (.int (own_s (own_d p2))), .val (.long (own_msk (own_d p2))), .second, .val (.int (1 : Int32)), .val (.int (1 : Int32)), .val (.int (own_cov (own_d p2) (own_pre (own_d p2) q3) (own_fst (own_d p2) (own_pre (own_d p2) q3)))), .unset] [(.long (0 : Int64)), (.long (own_fst (own_d p2) (own_pre (own_d p2) q3)))]))
    refine Gd.st (fun _ k => XS.lcmp X6.here hx rfl (hb hby at_144) rfl k) ?_
    show Gd p.tables e below _ (T6.setTop (mkF m 145 #[.val (.int p1), .val (.int p2), .val (.long q3), .second, .val (.int (own_d p2)), .val (.long (own_pre (own_d p2) q3)), .second, .val (.ref b1), .val (.long (own_fst (own_d p2) (own_pre (own_d p2) q3))), .second, .val (.int (own_s (own_d p2))), .val (.long (own_msk (own_d p2))), .second, .val (.int (1 : Int32)), .val (.int (1 : Int32)), .val (.int (own_cov (own_d p2) (own_pre (own_d p2) q3) (own_fst (own_d p2) (own_pre (own_d p2) q3)))), .unset] [(.int (lcmpW (own_fst (own_d p2) (own_pre (own_d p2) q3)) (0 : Int64)))]))
    by_cases hc145 : (own_fst (own_d p2) (own_pre (own_d p2) q3)) = (0 : Int64)
    · skip
      refine Gd.st (fun _ k => XS.ifYes X6.here hx rfl (pc0 := 145) (pc' := 160) rfl (hb hby at_145) rfl ((if0 _ _).trans (teq ((lw_eq (own_fst (own_d p2) (own_pre (own_d p2) q3)) (0 : Int64)).mpr hc145)).1) (by decide) (by decide) k) ?_
      show Gd p.tables e below _ (T6.setTop (mkF m 160 #[.val (.int p1), .val (.int p2), .val (.long q3), .second, .val (.int (own_d p2)), .val (.long (own_pre (own_d p2) q3)), .second, .val (.ref b1), .val (.long (own_fst (own_d p2) (own_pre (own_d p2) q3))), .second, .val (.int (own_s (own_d p2))), .val (.long (own_msk (own_d p2))), .second, .val (.int (1 : Int32)), .val (.int (1 : Int32)), .val (.int (own_cov (own_d p2) (own_pre (own_d p2) q3) (own_fst (own_d p2) (own_pre (own_d p2) q3)))), .unset] []))
      refine Gd.st (fun _ k => XS.iconst X6.here hx rfl (hb hby at_160) k) ?_
      show Gd p.tables e below _ (T6.setTop (mkF m 161 #[.val (.int p1), .val (.int p2), .val (.long q3), .second, .val (.int (own_d p2)), .val (.long (own_pre (own_d p2) q3)), .second, .val (.ref b1), .val (.long (own_fst (own_d p2) (own_pre (own_d p2) q3))), .second, .val (.int (own_s (own_d p2))), .val (.long (own_msk (own_d p2))), .second, .val (.int (1 : Int32)), .val (.int (1 : Int32)), .val (.int (own_cov (own_d p2) (own_pre (own_d p2) q3) (own_fst (own_d p2) (own_pre (own_d p2) q3)))), .unset] [(.int (1 : Int32))]))
      refine Gd.st (fun _ k => XS.goto X6.here hx rfl (pc0 := 161) (pc' := 165) rfl (hb hby at_161) (by decide) (by decide) k) ?_
      show Gd p.tables e below _ (T6.setTop (mkF m 165 #[.val (.int p1), .val (.int p2), .val (.long q3), .second, .val (.int (own_d p2)), .val (.long (own_pre (own_d p2) q3)), .second, .val (.ref b1), .val (.long (own_fst (own_d p2) (own_pre (own_d p2) q3))), .second, .val (.int (own_s (own_d p2))), .val (.long (own_msk (own_d p2))), .second, .val (.int (1 : Int32)), .val (.int (1 : Int32)), .val (.int (own_cov (own_d p2) (own_pre (own_d p2) q3) (own_fst (own_d p2) (own_pre (own_d p2) q3)))), .unset] [(.int (1 : Int32))]))
      refine Gd.st (fun _ k => XS.istore X6.here hx rfl (hb hby at_165) rfl (l' := #[.val (.int p1), .val (.int p2), .val (.long q3), .second, .val (.int (own_d p2)), .val (.long (own_pre (own_d p2) q3)), .second, .val (.ref b1), .val (.long (own_fst (own_d p2) (own_pre (own_d p2) q3))), .second, .val (.int (own_s (own_d p2))), .val (.long (own_msk (own_d p2))), .second, .val (.int (1 : Int32)), .val (.int (1 : Int32)), .val (.int (own_cov (own_d p2) (own_pre (own_d p2) q3) (own_fst (own_d p2) (own_pre (own_d p2) q3)))), .val (.int (1 : Int32))]) rfl k) ?_
      show Gd p.tables e below _ (T6.setTop (mkF m 167 #[.val (.int p1), .val (.int p2), .val (.long q3), .second, .val (.int (own_d p2)), .val (.long (own_pre (own_d p2) q3)), .second, .val (.ref b1), .val (.long (own_fst (own_d p2) (own_pre (own_d p2) q3))), .second, .val (.int (own_s (own_d p2))), .val (.long (own_msk (own_d p2))), .second, .val (.int (1 : Int32)), .val (.int (1 : Int32)), .val (.int (own_cov (own_d p2) (own_pre (own_d p2) q3) (own_fst (own_d p2) (own_pre (own_d p2) q3)))), .val (.int (1 : Int32))] []))
      refine Gd.st (fun _ k => XS.iload X6.here hx rfl (hb hby at_167) rfl k) ?_
      show Gd p.tables e below _ (T6.setTop (mkF m 169 #[.val (.int p1), .val (.int p2), .val (.long q3), .second, .val (.int (own_d p2)), .val (.long (own_pre (own_d p2) q3)), .second, .val (.ref b1), .val (.long (own_fst (own_d p2) (own_pre (own_d p2) q3))), .second, .val (.int (own_s (own_d p2))), .val (.long (own_msk (own_d p2))), .second, .val (.int (1 : Int32)), .val (.int (1 : Int32)), .val (.int (own_cov (own_d p2) (own_pre (own_d p2) q3) (own_fst (own_d p2) (own_pre (own_d p2) q3)))), .val (.int (1 : Int32))] [(.int (1 : Int32))]))
      refine Gd.st (fun _ k => XS.ifNo X6.here hx rfl (hb hby at_169) rfl ((if0 _ _).trans (feq (by decide)).1) k) ?_
      show Gd p.tables e below _ (T6.setTop (mkF m 172 #[.val (.int p1), .val (.int p2), .val (.long q3), .second, .val (.int (own_d p2)), .val (.long (own_pre (own_d p2) q3)), .second, .val (.ref b1), .val (.long (own_fst (own_d p2) (own_pre (own_d p2) q3))), .second, .val (.int (own_s (own_d p2))), .val (.long (own_msk (own_d p2))), .second, .val (.int (1 : Int32)), .val (.int (1 : Int32)), .val (.int (own_cov (own_d p2) (own_pre (own_d p2) q3) (own_fst (own_d p2) (own_pre (own_d p2) q3)))), .val (.int (1 : Int32))] []))
      refine Gd.st (fun _ k => XS.iload X6.here hx rfl (hb hby at_172) rfl k) ?_
      show Gd p.tables e below _ (T6.setTop (mkF m 174 #[.val (.int p1), .val (.int p2), .val (.long q3), .second, .val (.int (own_d p2)), .val (.long (own_pre (own_d p2) q3)), .second, .val (.ref b1), .val (.long (own_fst (own_d p2) (own_pre (own_d p2) q3))), .second, .val (.int (own_s (own_d p2))), .val (.long (own_msk (own_d p2))), .second, .val (.int (1 : Int32)), .val (.int (1 : Int32)), .val (.int (own_cov (own_d p2) (own_pre (own_d p2) q3) (own_fst (own_d p2) (own_pre (own_d p2) q3)))), .val (.int (1 : Int32))] [(.int (1 : Int32))]))
      refine Gd.st (fun _ k => XS.ifNo X6.here hx rfl (hb hby at_174) rfl ((if0 _ _).trans (feq (by decide)).1) k) ?_
      show Gd p.tables e below _ (T6.setTop (mkF m 177 #[.val (.int p1), .val (.int p2), .val (.long q3), .second, .val (.int (own_d p2)), .val (.long (own_pre (own_d p2) q3)), .second, .val (.ref b1), .val (.long (own_fst (own_d p2) (own_pre (own_d p2) q3))), .second, .val (.int (own_s (own_d p2))), .val (.long (own_msk (own_d p2))), .second, .val (.int (1 : Int32)), .val (.int (1 : Int32)), .val (.int (own_cov (own_d p2) (own_pre (own_d p2) q3) (own_fst (own_d p2) (own_pre (own_d p2) q3)))), .val (.int (1 : Int32))] []))
      refine Gd.st (fun _ k => XS.iload X6.here hx rfl (hb hby at_177) rfl k) ?_
      show Gd p.tables e below _ (T6.setTop (mkF m 179 #[.val (.int p1), .val (.int p2), .val (.long q3), .second, .val (.int (own_d p2)), .val (.long (own_pre (own_d p2) q3)), .second, .val (.ref b1), .val (.long (own_fst (own_d p2) (own_pre (own_d p2) q3))), .second, .val (.int (own_s (own_d p2))), .val (.long (own_msk (own_d p2))), .second, .val (.int (1 : Int32)), .val (.int (1 : Int32)), .val (.int (own_cov (own_d p2) (own_pre (own_d p2) q3) (own_fst (own_d p2) (own_pre (own_d p2) q3)))), .val (.int (1 : Int32))] [(.int (own_cov (own_d p2) (own_pre (own_d p2) q3) (own_fst (own_d p2) (own_pre (own_d p2) q3))))]))
      refine Gd.st (fun _ k => XS.ifNo X6.here hx rfl (hb hby at_179) rfl ((if0 _ _).trans (feq (own_covers p2 q3 hc55)).1) k) ?_
      show Gd p.tables e below _ (T6.setTop (mkF m 182 #[.val (.int p1), .val (.int p2), .val (.long q3), .second, .val (.int (own_d p2)), .val (.long (own_pre (own_d p2) q3)), .second, .val (.ref b1), .val (.long (own_fst (own_d p2) (own_pre (own_d p2) q3))), .second, .val (.int (own_s (own_d p2))), .val (.long (own_msk (own_d p2))), .second, .val (.int (1 : Int32)), .val (.int (1 : Int32)), .val (.int (own_cov (own_d p2) (own_pre (own_d p2) q3) (own_fst (own_d p2) (own_pre (own_d p2) q3)))), .val (.int (1 : Int32))] []))
      refine Gd.st (fun _ k => XS.iload X6.here hx rfl (hb hby at_182) rfl k) ?_
      show Gd p.tables e below _ (T6.setTop (mkF m 184 #[.val (.int p1), .val (.int p2), .val (.long q3), .second, .val (.int (own_d p2)), .val (.long (own_pre (own_d p2) q3)), .second, .val (.ref b1), .val (.long (own_fst (own_d p2) (own_pre (own_d p2) q3))), .second, .val (.int (own_s (own_d p2))), .val (.long (own_msk (own_d p2))), .second, .val (.int (1 : Int32)), .val (.int (1 : Int32)), .val (.int (own_cov (own_d p2) (own_pre (own_d p2) q3) (own_fst (own_d p2) (own_pre (own_d p2) q3)))), .val (.int (1 : Int32))] [(.int (1 : Int32))]))
      refine Gd.st (fun _ k => XS.ifNo X6.here hx rfl (hb hby at_184) rfl ((if0 _ _).trans (feq (by decide)).1) k) ?_
      show Gd p.tables e below _ (T6.setTop (mkF m 187 #[.val (.int p1), .val (.int p2), .val (.long q3), .second, .val (.int (own_d p2)), .val (.long (own_pre (own_d p2) q3)), .second, .val (.ref b1), .val (.long (own_fst (own_d p2) (own_pre (own_d p2) q3))), .second, .val (.int (own_s (own_d p2))), .val (.long (own_msk (own_d p2))), .second, .val (.int (1 : Int32)), .val (.int (1 : Int32)), .val (.int (own_cov (own_d p2) (own_pre (own_d p2) q3) (own_fst (own_d p2) (own_pre (own_d p2) q3)))), .val (.int (1 : Int32))] []))
      refine Gd.st (fun _ k => XS.iconst X6.here hx rfl (hb hby at_187) k) ?_
      show Gd p.tables e below _ (T6.setTop (mkF m 188 #[.val (.int p1), .val (.int p2), .val (.long q3), .second, .val (.int (own_d p2)), .val (.long (own_pre (own_d p2) q3)), .second, .val (.ref b1), .val (.long (own_fst (own_d p2) (own_pre (own_d p2) q3))), .second, .val (.int (own_s (own_d p2))), .val (.long (own_msk (own_d p2))), .second, .val (.int (1 : Int32)), .val (.int (1 : Int32)), .val (.int (own_cov (own_d p2) (own_pre (own_d p2) q3) (own_fst (own_d p2) (own_pre (own_d p2) q3)))), .val (.int (1 : Int32))] [(.int (1 : Int32))]))
      refine Gd.st (fun _ k => XS.goto X6.here hx rfl (pc0 := 188) (pc' := 192) rfl (hb hby at_188) (by decide) (by decide) k) ?_
      show Gd p.tables e below _ (T6.setTop (mkF m 192 #[.val (.int p1), .val (.int p2), .val (.long q3), .second, .val (.int (own_d p2)), .val (.long (own_pre (own_d p2) q3)), .second, .val (.ref b1), .val (.long (own_fst (own_d p2) (own_pre (own_d p2) q3))), .second, .val (.int (own_s (own_d p2))), .val (.long (own_msk (own_d p2))), .second, .val (.int (1 : Int32)), .val (.int (1 : Int32)), .val (.int (own_cov (own_d p2) (own_pre (own_d p2) q3) (own_fst (own_d p2) (own_pre (own_d p2) q3)))), .val (.int (1 : Int32))] [(.int (1 : Int32))]))
      obtain ⟨fs, hr, hrun, hended, hW, hsame⟩ := X6.leave (v := some (.int (1 : Int32))) (fun h => by rw [Bd.returns] at h; cases h) Bd.notSynchronized
      refine Gd.mk (o := .returned (some (.int (1 : Int32)))) (retN X6 hx (t := .boolean) Bd.returns (by simp) (hb hby at_192) hr) ⟨hrun, hended, _, _, rfl, ?_, ⟨_, rfl⟩, hW, hsame.mono (by decide) (by decide)⟩
      show Q0 Z p1 p2 q3 h0 n0 _ T6.heap _
      rw [e6]
      exact ⟨rfl, N6⟩
    · skip
      refine Gd.st (fun _ k => XS.ifNo X6.here hx rfl (hb hby at_145) rfl ((if0 _ _).trans (feq (fun q => hc145 ((lw_eq (own_fst (own_d p2) (own_pre (own_d p2) q3)) (0 : Int64)).mp q))).1) k) ?_
      show Gd p.tables e below _ (T6.setTop (mkF m 148 #[.val (.int p1), .val (.int p2), .val (.long q3), .second, .val (.int (own_d p2)), .val (.long (own_pre (own_d p2) q3)), .second, .val (.ref b1), .val (.long (own_fst (own_d p2) (own_pre (own_d p2) q3))), .second, .val (.int (own_s (own_d p2))), .val (.long (own_msk (own_d p2))), .second, .val (.int (1 : Int32)), .val (.int (1 : Int32)), .val (.int (own_cov (own_d p2) (own_pre (own_d p2) q3) (own_fst (own_d p2) (own_pre (own_d p2) q3)))), .unset] []))
      refine Gd.st (fun _ k => XS.aload X6.here hx rfl (hb hby at_148) rfl rfl k) ?_
      show Gd p.tables e below _ (T6.setTop (mkF m 150 #[.val (.int p1), .val (.int p2), .val (.long q3), .second, .val (.int (own_d p2)), .val (.long (own_pre (own_d p2) q3)), .second, .val (.ref b1), .val (.long (own_fst (own_d p2) (own_pre (own_d p2) q3))), .second, .val (.int (own_s (own_d p2))), .val (.long (own_msk (own_d p2))), .second, .val (.int (1 : Int32)), .val (.int (1 : Int32)), .val (.int (own_cov (own_d p2) (own_pre (own_d p2) q3) (own_fst (own_d p2) (own_pre (own_d p2) q3)))), .unset] [(.ref b1)]))
      refine Gd.st (fun _ k => XS.lload X6.here hx rfl (hb hby at_150) rfl k) ?_
      show Gd p.tables e below _ (T6.setTop (mkF m 152 #[.val (.int p1), .val (.int p2), .val (.long q3), .second, .val (.int (own_d p2)), .val (.long (own_pre (own_d p2) q3)), .second, .val (.ref b1), .val (.long (own_fst (own_d p2) (own_pre (own_d p2) q3))), .second, .val (.int (own_s (own_d p2))), .val (.long (own_msk (own_d p2))), .second, .val (.int (1 : Int32)), .val (.int (1 : Int32)), .val (.int (own_cov (own_d p2) (own_pre (own_d p2) q3) (own_fst (own_d p2) (own_pre (own_d p2) q3)))), .unset] [(.long (own_fst (own_d p2) (own_pre (own_d p2) q3))), (.ref b1)]))
      refine Gd.st (fun _ k => XS.lconst X6.here hx rfl (hb hby at_152) k) ?_
      show Gd p.tables e below _ (T6.setTop (mkF m 153 #[.val (.int p1), .val (.int p2), .val (.long q3), .second, .val (.int (own_d p2)), .val (.long (own_pre (own_d p2) q3)), .second, .val (.ref b1), .val (.long (own_fst (own_d p2) (own_pre (own_d p2) q3))), .second, .val (.int (own_s (own_d p2))), .val (.long (own_msk (own_d p2))), .second, .val (.int (1 : Int32)), .val (.int (1 : Int32)), .val (.int (own_cov (own_d p2) (own_pre (own_d p2) q3) (own_fst (own_d p2) (own_pre (own_d p2) q3)))), .unset] [(.long (1 : Int64)), (.long (own_fst (own_d p2) (own_pre (own_d p2) q3))), (.ref b1)]))
      refine Gd.st (fun _ k => XS.lsub X6.here hx rfl (hb hby at_153) rfl k) ?_
      show Gd p.tables e below _ (T6.setTop (mkF m 154 #[.val (.int p1), .val (.int p2), .val (.long q3), .second, .val (.int (own_d p2)), .val (.long (own_pre (own_d p2) q3)), .second, .val (.ref b1), .val (.long (own_fst (own_d p2) (own_pre (own_d p2) q3))), .second, .val (.int (own_s (own_d p2))), .val (.long (own_msk (own_d p2))), .second, .val (.int (1 : Int32)), .val (.int (1 : Int32)), .val (.int (own_cov (own_d p2) (own_pre (own_d p2) q3) (own_fst (own_d p2) (own_pre (own_d p2) q3)))), .unset] [(.long ((own_fst (own_d p2) (own_pre (own_d p2) q3)) - (1 : Int64))), (.ref b1)]))
      obtain ⟨cq7, kq7, q7a, q7b, q7c⟩ := isOf hZ e6 A3
      obtain ⟨_, _, ⟨T7, L7, k7, n7⟩, -, X7, ⟨Lc7, hQ7, l7, y7, z7⟩, st7⟩ := X6.virtualBack hx (y := (⟨"com/example/tattle/tattle/antientropy/HashTrees$Node", "covers", "(J)Z"⟩ : MethodName)) (z := (⟨"com/example/tattle/tattle/antientropy/HashTrees$Node", "covers", "(J)Z"⟩ : MethodName)) hown (mvT hZ (hw _ (List.mem_of_getElem? (i := 26) rfl))) (mvT hZ (hw _ (List.mem_of_getElem? (i := 27) rfl))) (notFace_of_selects (args := #[]) (mvT hZ (hw _ (List.mem_of_getElem? (i := 29) rfl)))) (mvT hZ (hw _ (List.mem_of_getElem? (i := 29) rfl))) (mvT hZ (hw _ (List.mem_of_getElem? (i := 28) rfl))) (by decide) (backOf (W := 0) (rm5 l Z a0 hw [] b1 ((own_fst (own_d p2) (own_pre (own_d p2) q3)) - (1 : Int64)) (own_d p2) (own_pre (own_d p2) q3) T3.heap n0 Z4 F3_1 F3_2) hZ (hw _ (List.mem_of_getElem? (i := 30) rfl)) (hw _ (List.mem_of_getElem? (i := 3) rfl)) (by decide) (by decide)) q7a q7c (g := (mkF m 154 #[.val (.int p1), .val (.int p2), .val (.long q3), .second, .val (.int (own_d p2)), .val (.long (own_pre (own_d p2) q3)), .second, .val (.ref b1), .val (.long (own_fst (own_d p2) (own_pre (own_d p2) q3))), .second, .val (.int (own_s (own_d p2))), .val (.long (own_msk (own_d p2))), .second, .val (.int (1 : Int32)), .val (.int (1 : Int32)), .val (.int (own_cov (own_d p2) (own_pre (own_d p2) q3) (own_fst (own_d p2) (own_pre (own_d p2) q3)))), .unset] [(.long ((own_fst (own_d p2) (own_pre (own_d p2) q3)) - (1 : Int64))), (.ref b1)])) rfl (by rw [hml]; rfl) (Steps.refl _) (argsL := [(.long ((own_fst (own_d p2) (own_pre (own_d p2) q3)) - (1 : Int64)))]) (rest := []) (lenOf pd__J_Z_4 rfl) rfl (by show 2 * 0 + _ ≤ _; exact Nat.le_of_eq rfl) (hb hby at_154) (fun _ _ => ⟨rfl, e6, (by decide : 1 + 0 ≤ _), (by decide : 3 + 0 ≤ _)⟩)
      dsimp only [Pt.U, Pt.locs, Pt.cells, Pt.slots] at X7 l7 y7 z7 st7 hQ7
      simp only [Nat.add_zero, Nat.zero_add, Nat.reduceAdd] at y7 z7
      subst y7 z7
      obtain ⟨rfl, N7q, eh7⟩ := hQ7
      have N7 : Fr n0 L7 := by rw [l7]; exact Fr.app N6 N7q
      clear l7
      refine Gd.st (fun _ k => st7.trans k) ?_
      have e7 : T7.heap = T3.heap := eh7
      show Gd p.tables e below _ (T7.setTop (mkF m 157 #[.val (.int p1), .val (.int p2), .val (.long q3), .second, .val (.int (own_d p2)), .val (.long (own_pre (own_d p2) q3)), .second, .val (.ref b1), .val (.long (own_fst (own_d p2) (own_pre (own_d p2) q3))), .second, .val (.int (own_s (own_d p2))), .val (.long (own_msk (own_d p2))), .second, .val (.int (1 : Int32)), .val (.int (1 : Int32)), .val (.int (own_cov (own_d p2) (own_pre (own_d p2) q3) (own_fst (own_d p2) (own_pre (own_d p2) q3)))), .unset] [(.int (own_cov (own_d p2) (own_pre (own_d p2) q3) ((own_fst (own_d p2) (own_pre (own_d p2) q3)) - (1 : Int64))))]))
      refine Gd.st (fun _ k => XS.ifNo X7.here hx rfl (hb hby at_157) rfl ((if0 _ _).trans (teq (own_below p2 q3 hc55 hc145)).2) k) ?_
      show Gd p.tables e below _ (T7.setTop (mkF m 160 #[.val (.int p1), .val (.int p2), .val (.long q3), .second, .val (.int (own_d p2)), .val (.long (own_pre (own_d p2) q3)), .second, .val (.ref b1), .val (.long (own_fst (own_d p2) (own_pre (own_d p2) q3))), .second, .val (.int (own_s (own_d p2))), .val (.long (own_msk (own_d p2))), .second, .val (.int (1 : Int32)), .val (.int (1 : Int32)), .val (.int (own_cov (own_d p2) (own_pre (own_d p2) q3) (own_fst (own_d p2) (own_pre (own_d p2) q3)))), .unset] []))
      refine Gd.st (fun _ k => XS.iconst X7.here hx rfl (hb hby at_160) k) ?_
      show Gd p.tables e below _ (T7.setTop (mkF m 161 #[.val (.int p1), .val (.int p2), .val (.long q3), .second, .val (.int (own_d p2)), .val (.long (own_pre (own_d p2) q3)), .second, .val (.ref b1), .val (.long (own_fst (own_d p2) (own_pre (own_d p2) q3))), .second, .val (.int (own_s (own_d p2))), .val (.long (own_msk (own_d p2))), .second, .val (.int (1 : Int32)), .val (.int (1 : Int32)), .val (.int (own_cov (own_d p2) (own_pre (own_d p2) q3) (own_fst (own_d p2) (own_pre (own_d p2) q3)))), .unset] [(.int (1 : Int32))]))
      refine Gd.st (fun _ k => XS.goto X7.here hx rfl (pc0 := 161) (pc' := 165) rfl (hb hby at_161) (by decide) (by decide) k) ?_
      show Gd p.tables e below _ (T7.setTop (mkF m 165 #[.val (.int p1), .val (.int p2), .val (.long q3), .second, .val (.int (own_d p2)), .val (.long (own_pre (own_d p2) q3)), .second, .val (.ref b1), .val (.long (own_fst (own_d p2) (own_pre (own_d p2) q3))), .second, .val (.int (own_s (own_d p2))), .val (.long (own_msk (own_d p2))), .second, .val (.int (1 : Int32)), .val (.int (1 : Int32)), .val (.int (own_cov (own_d p2) (own_pre (own_d p2) q3) (own_fst (own_d p2) (own_pre (own_d p2) q3)))), .unset] [(.int (1 : Int32))]))
      refine Gd.st (fun _ k => XS.istore X7.here hx rfl (hb hby at_165) rfl (l' := #[.val (.int p1), .val (.int p2), .val (.long q3), .second, .val (.int (own_d p2)), .val (.long (own_pre (own_d p2) q3)), .second, .val (.ref b1), .val (.long (own_fst (own_d p2) (own_pre (own_d p2) q3))), .second, .val (.int (own_s (own_d p2))), .val (.long (own_msk (own_d p2))), .second, .val (.int (1 : Int32)), .val (.int (1 : Int32)), .val (.int (own_cov (own_d p2) (own_pre (own_d p2) q3) (own_fst (own_d p2) (own_pre (own_d p2) q3)))), .val (.int (1 : Int32))]) rfl k) ?_
      show Gd p.tables e below _ (T7.setTop (mkF m 167 #[.val (.int p1), .val (.int p2), .val (.long q3), .second, .val (.int (own_d p2)), .val (.long (own_pre (own_d p2) q3)), .second, .val (.ref b1), .val (.long (own_fst (own_d p2) (own_pre (own_d p2) q3))), .second, .val (.int (own_s (own_d p2))), .val (.long (own_msk (own_d p2))), .second, .val (.int (1 : Int32)), .val (.int (1 : Int32)), .val (.int (own_cov (own_d p2) (own_pre (own_d p2) q3) (own_fst (own_d p2) (own_pre (own_d p2) q3)))), .val (.int (1 : Int32))] []))
      refine Gd.st (fun _ k => XS.iload X7.here hx rfl (hb hby at_167) rfl k) ?_
      show Gd p.tables e below _ (T7.setTop (mkF m 169 #[.val (.int p1), .val (.int p2), .val (.long q3), .second, .val (.int (own_d p2)), .val (.long (own_pre (own_d p2) q3)), .second, .val (.ref b1), .val (.long (own_fst (own_d p2) (own_pre (own_d p2) q3))), .second, .val (.int (own_s (own_d p2))), .val (.long (own_msk (own_d p2))), .second, .val (.int (1 : Int32)), .val (.int (1 : Int32)), .val (.int (own_cov (own_d p2) (own_pre (own_d p2) q3) (own_fst (own_d p2) (own_pre (own_d p2) q3)))), .val (.int (1 : Int32))] [(.int (1 : Int32))]))
      refine Gd.st (fun _ k => XS.ifNo X7.here hx rfl (hb hby at_169) rfl ((if0 _ _).trans (feq (by decide)).1) k) ?_
      show Gd p.tables e below _ (T7.setTop (mkF m 172 #[.val (.int p1), .val (.int p2), .val (.long q3), .second, .val (.int (own_d p2)), .val (.long (own_pre (own_d p2) q3)), .second, .val (.ref b1), .val (.long (own_fst (own_d p2) (own_pre (own_d p2) q3))), .second, .val (.int (own_s (own_d p2))), .val (.long (own_msk (own_d p2))), .second, .val (.int (1 : Int32)), .val (.int (1 : Int32)), .val (.int (own_cov (own_d p2) (own_pre (own_d p2) q3) (own_fst (own_d p2) (own_pre (own_d p2) q3)))), .val (.int (1 : Int32))] []))
      refine Gd.st (fun _ k => XS.iload X7.here hx rfl (hb hby at_172) rfl k) ?_
      show Gd p.tables e below _ (T7.setTop (mkF m 174 #[.val (.int p1), .val (.int p2), .val (.long q3), .second, .val (.int (own_d p2)), .val (.long (own_pre (own_d p2) q3)), .second, .val (.ref b1), .val (.long (own_fst (own_d p2) (own_pre (own_d p2) q3))), .second, .val (.int (own_s (own_d p2))), .val (.long (own_msk (own_d p2))), .second, .val (.int (1 : Int32)), .val (.int (1 : Int32)), .val (.int (own_cov (own_d p2) (own_pre (own_d p2) q3) (own_fst (own_d p2) (own_pre (own_d p2) q3)))), .val (.int (1 : Int32))] [(.int (1 : Int32))]))
      refine Gd.st (fun _ k => XS.ifNo X7.here hx rfl (hb hby at_174) rfl ((if0 _ _).trans (feq (by decide)).1) k) ?_
      show Gd p.tables e below _ (T7.setTop (mkF m 177 #[.val (.int p1), .val (.int p2), .val (.long q3), .second, .val (.int (own_d p2)), .val (.long (own_pre (own_d p2) q3)), .second, .val (.ref b1), .val (.long (own_fst (own_d p2) (own_pre (own_d p2) q3))), .second, .val (.int (own_s (own_d p2))), .val (.long (own_msk (own_d p2))), .second, .val (.int (1 : Int32)), .val (.int (1 : Int32)), .val (.int (own_cov (own_d p2) (own_pre (own_d p2) q3) (own_fst (own_d p2) (own_pre (own_d p2) q3)))), .val (.int (1 : Int32))] []))
      refine Gd.st (fun _ k => XS.iload X7.here hx rfl (hb hby at_177) rfl k) ?_
      show Gd p.tables e below _ (T7.setTop (mkF m 179 #[.val (.int p1), .val (.int p2), .val (.long q3), .second, .val (.int (own_d p2)), .val (.long (own_pre (own_d p2) q3)), .second, .val (.ref b1), .val (.long (own_fst (own_d p2) (own_pre (own_d p2) q3))), .second, .val (.int (own_s (own_d p2))), .val (.long (own_msk (own_d p2))), .second, .val (.int (1 : Int32)), .val (.int (1 : Int32)), .val (.int (own_cov (own_d p2) (own_pre (own_d p2) q3) (own_fst (own_d p2) (own_pre (own_d p2) q3)))), .val (.int (1 : Int32))] [(.int (own_cov (own_d p2) (own_pre (own_d p2) q3) (own_fst (own_d p2) (own_pre (own_d p2) q3))))]))
      refine Gd.st (fun _ k => XS.ifNo X7.here hx rfl (hb hby at_179) rfl ((if0 _ _).trans (feq (own_covers p2 q3 hc55)).1) k) ?_
      show Gd p.tables e below _ (T7.setTop (mkF m 182 #[.val (.int p1), .val (.int p2), .val (.long q3), .second, .val (.int (own_d p2)), .val (.long (own_pre (own_d p2) q3)), .second, .val (.ref b1), .val (.long (own_fst (own_d p2) (own_pre (own_d p2) q3))), .second, .val (.int (own_s (own_d p2))), .val (.long (own_msk (own_d p2))), .second, .val (.int (1 : Int32)), .val (.int (1 : Int32)), .val (.int (own_cov (own_d p2) (own_pre (own_d p2) q3) (own_fst (own_d p2) (own_pre (own_d p2) q3)))), .val (.int (1 : Int32))] []))
      refine Gd.st (fun _ k => XS.iload X7.here hx rfl (hb hby at_182) rfl k) ?_
      show Gd p.tables e below _ (T7.setTop (mkF m 184 #[.val (.int p1), .val (.int p2), .val (.long q3), .second, .val (.int (own_d p2)), .val (.long (own_pre (own_d p2) q3)), .second, .val (.ref b1), .val (.long (own_fst (own_d p2) (own_pre (own_d p2) q3))), .second, .val (.int (own_s (own_d p2))), .val (.long (own_msk (own_d p2))), .second, .val (.int (1 : Int32)), .val (.int (1 : Int32)), .val (.int (own_cov (own_d p2) (own_pre (own_d p2) q3) (own_fst (own_d p2) (own_pre (own_d p2) q3)))), .val (.int (1 : Int32))] [(.int (1 : Int32))]))
      refine Gd.st (fun _ k => XS.ifNo X7.here hx rfl (hb hby at_184) rfl ((if0 _ _).trans (feq (by decide)).1) k) ?_
      show Gd p.tables e below _ (T7.setTop (mkF m 187 #[.val (.int p1), .val (.int p2), .val (.long q3), .second, .val (.int (own_d p2)), .val (.long (own_pre (own_d p2) q3)), .second, .val (.ref b1), .val (.long (own_fst (own_d p2) (own_pre (own_d p2) q3))), .second, .val (.int (own_s (own_d p2))), .val (.long (own_msk (own_d p2))), .second, .val (.int (1 : Int32)), .val (.int (1 : Int32)), .val (.int (own_cov (own_d p2) (own_pre (own_d p2) q3) (own_fst (own_d p2) (own_pre (own_d p2) q3)))), .val (.int (1 : Int32))] []))
      refine Gd.st (fun _ k => XS.iconst X7.here hx rfl (hb hby at_187) k) ?_
      show Gd p.tables e below _ (T7.setTop (mkF m 188 #[.val (.int p1), .val (.int p2), .val (.long q3), .second, .val (.int (own_d p2)), .val (.long (own_pre (own_d p2) q3)), .second, .val (.ref b1), .val (.long (own_fst (own_d p2) (own_pre (own_d p2) q3))), .second, .val (.int (own_s (own_d p2))), .val (.long (own_msk (own_d p2))), .second, .val (.int (1 : Int32)), .val (.int (1 : Int32)), .val (.int (own_cov (own_d p2) (own_pre (own_d p2) q3) (own_fst (own_d p2) (own_pre (own_d p2) q3)))), .val (.int (1 : Int32))] [(.int (1 : Int32))]))
      refine Gd.st (fun _ k => XS.goto X7.here hx rfl (pc0 := 188) (pc' := 192) rfl (hb hby at_188) (by decide) (by decide) k) ?_
      show Gd p.tables e below _ (T7.setTop (mkF m 192 #[.val (.int p1), .val (.int p2), .val (.long q3), .second, .val (.int (own_d p2)), .val (.long (own_pre (own_d p2) q3)), .second, .val (.ref b1), .val (.long (own_fst (own_d p2) (own_pre (own_d p2) q3))), .second, .val (.int (own_s (own_d p2))), .val (.long (own_msk (own_d p2))), .second, .val (.int (1 : Int32)), .val (.int (1 : Int32)), .val (.int (own_cov (own_d p2) (own_pre (own_d p2) q3) (own_fst (own_d p2) (own_pre (own_d p2) q3)))), .val (.int (1 : Int32))] [(.int (1 : Int32))]))
      obtain ⟨fs, hr, hrun, hended, hW, hsame⟩ := X7.leave (v := some (.int (1 : Int32))) (fun h => by rw [Bd.returns] at h; cases h) Bd.notSynchronized
      refine Gd.mk (o := .returned (some (.int (1 : Int32)))) (retN X7 hx (t := .boolean) Bd.returns (by simp) (hb hby at_192) hr) ⟨hrun, hended, _, _, rfl, ?_, ⟨_, rfl⟩, hW, hsame.mono (by decide) (by decide)⟩
      show Q0 Z p1 p2 q3 h0 n0 _ T7.heap _
      rw [e7]
      exact ⟨rfl, N7⟩
set_option maxRecDepth 65536 in
set_option maxHeartbeats 40000000 in
theorem comes_1 {Post : Tables → Env → Array Value → State → Outcome → State → Prop} (hpost : ∀ tb e args s v u, (limb_1_1.after args s (.returned v) u = true ∧ limb_1_2.after args s (.returned v) u = true ∧ True) → FrameEnd s (.returned v) u (Jvm.fieldLocs frame_1_writes args s ++ Jvm.arrayLocs frame_1_arrays args s ++ Jvm.staticLocs frame_1_statics s) 16 128 → Post tb e args s (.returned v) u) :
    ArmFor flags0 classFile x code maxLocals ret World_1 tables_1 room_1 Calls_1 rest_1 Pre_1 Post := by
  intro l hfl _ _ p e ha hc hk s m args below hf hA hF happ hP
  obtain ⟨hcalls, hrest, hpre⟩ := hP
  obtain ⟨-, -, -, hnamed, -, -, -, hat⟩ := (Spec.applies_iff hf).mp happ
  obtain ⟨hg, hn⟩ := and_e (Cond.before_iff.mp (show (Jvm.Cond.and given_1 narrow_1).before args s = true from hpre))
  obtain ⟨g1, g2⟩ := and_e hg
  obtain ⟨g3, g4⟩ := and_e g2
  obtain ⟨g5, g6⟩ := and_e g4
  obtain ⟨w0, w1, w2, rfl⟩ : ∃ w0 w1 w2 : Value, args = #[w0, w1, w2] := by
    have hs : args.size = 3 := by simpa [Cond.value, given_1] using g1
    obtain ⟨L⟩ := args
    match L, hs with
    | [w0, w1, w2], _ => exact ⟨w0, w1, w2, rfl⟩
  have hw := fun d (hd : d ∈ tables_1) => atoms_spec (ws := Jvm.Cond.code x code maxLocals ret :: tables_1) hat d (List.mem_cons_of_mem _ hd)
  obtain ⟨i0, ei0⟩ := is_v g3
  obtain rfl : w0 = (.int i0) := Option.some.inj ei0
  obtain ⟨i1, ei1⟩ := is_v g5
  obtain rfl : w1 = (.int i1) := Option.some.inj ei1
  obtain ⟨i2, ei2⟩ := isL_v g6
  obtain rfl : w2 = (.long i2) := Option.some.inj ei2
  obtain ⟨n, o, h1, h2, h3, _, L, rfl, ⟨rfl, N⟩, hq⟩ := rm0 l s _ hw tables_1 i0 i1 i2 s.heap s.heap.size (Nat.le_refl _) p e ha hc hk s m _ below hf ((Spec.applies_iff_loose hf).mp happ).1 ⟨rfl, State.Warmed39.refl s, rfl⟩ trivial
  refine ⟨n, _, h1, h2, h3, hpost _ _ _ _ _ _ ⟨Cond.after_iff.mpr rfl, Cond.after_iff.mpr (eq_i res_at (Term.int_eval (1)) rfl), trivial⟩ ⟨hq.1, hq.2.1, (hq.2.2.sift fun y hy => Or.inr (N y hy)).mono (by decide) (by decide)⟩⟩
theorem main_1_1 : Claimed_1_1 := comes_1 fun _ _ _ _ _ _ h hF => ⟨h.1, hF⟩
theorem main_1_2 : Claimed_1_2 := comes_1 fun _ _ _ _ _ _ h hF => ⟨h.2.1, hF⟩
end Jvm.Pilot.@@N@@
namespace Jvm.Pilot.@@N@@
open Jvm Jvm.ClassFile Sem Op Lib Jvm.Free Jvm.Stand Jvm.Pilot.@@N@@.Jvm.D
/-! MADE BY PROGRAM (witnessworld.py) out of the Statement's table words and the real class files: 10 classes; the members and pool entries that the words name. The judged class is class 1, her method 1. -/
namespace start1
open Jvm.ClassFile
def u (s : String) : CpInfo := .utf8 (stringToUtf16 s)
/-- a pool by its gaps: so many unusable entries, then the entry; so many at the end -/
def gap : Nat → List CpInfo → List CpInfo
  | 0, r => r
  | n + 1, r => .unusable :: gap n r
def poolList (es : List (Nat × CpInfo)) (last : Nat) : List CpInfo := es.foldr (fun e r => gap e.1 (e.2 :: r)) (gap last [])
def pool (es : List (Nat × CpInfo)) (last : Nat) : Array CpInfo := ⟨poolList es last⟩
def fileOf (pool : Array CpInfo) (this : Nat) (attrs : Array Attribute := #[]) (ms : Array MethodInfo := #[]) (fl : Nat := 33) (sup : Nat := 0) (ifs : Array Nat := #[]) (fds : Array FieldInfo := #[]) : ClassFile where
  minorVersion := 0
  majorVersion := 65
  constantPool := pool
  accessFlags := fl
  thisClass := this
  superClass := sup
  interfaces := ifs
  fields := fds
  methods := ms
  attributes := attrs
def plain (name : String) (sup : Option ClassId) : Class where
  name := name
  kind := .ordinary
  loader := none
  accessFlags := 33
  super := sup
  interfaces := #[]
  cf := none
  fields := #[]
  methods := #[]
  instanceTypes := #[]
  staticTypes := #[]
  resolved := #[]
  callSites := []
  init := .initialized
  statics := none
  mirror := none

def pool0 : Array CpInfo := pool [(5, u "<init>"), (0, u "()V"), (1, .class_ 10), (1, u "java/lang/Object")] 113

def k0c0 : Code := { maxStack := 0, maxLocals := 1, code := object_method_1_code, exceptionTable := #[], attributes := #[] }
def k0m0 : Method := { name := "<init>", desc := "()V", sig := { parameters := [], returnType := none }, accessFlags := 1, code := some k0c0 }
/-- java/lang/Object -/
def k0 : Class := { plain "java/lang/Object" none with
  accessFlags := 33
  interfaces := #[]
  cf := some (fileOf pool0 8 #[] #[{ accessFlags := 1, nameIndex := 5, descriptorIndex := 6, attributes := #[] }] 33 0 #[] #[])
  fields := #[]
  methods := #[k0m0]
  instanceTypes := #[]
  staticTypes := #[]
  resolved := Array.replicate 124 none
  statics := none }

def pool1 : Array CpInfo := pool [(2, .class_ 4), (1, u "java/lang/Object"), (0, u "<init>"), (0, u "()V"), (0, .integer 2147483647), (0, .class_ 9), (0, u "com/example/tattle/tattle/antientropy/HashTrees$Node"), (0, .methodref 8 11), (0, .nameAndType 5 12), (0, u "(IIJ)V"), (0, .methodref 8 14), (0, .nameAndType 15 16), (0, u "first"), (0, u "()J"), (0, .methodref 8 18), (0, .nameAndType 19 20), (0, u "covers"), (0, u "(J)Z"), (0, .class_ 22), (0, u "com/example/tattle/tattle/antientropy/NodeFirstPinLaw"), (2, u "law"), (0, u "(IIJ)Z")] 7

def k1m0 : Method := { name := "<init>", desc := "()V", sig := { parameters := [], returnType := none }, accessFlags := 1, code := none }
def k1c1 : Code := { maxStack := 6, maxLocals := 17, code := code, exceptionTable := #[], attributes := #[] }
def k1m1 : Method := { name := "law", desc := "(IIJ)Z", sig := { parameters := [.int, .int, .long], returnType := some .boolean }, accessFlags := 9, code := some k1c1 }
/-- com/example/tattle/tattle/antientropy/NodeFirstPinLaw -/
def k1 : Class := { plain "com/example/tattle/tattle/antientropy/NodeFirstPinLaw" (some 0) with
  accessFlags := 49
  interfaces := #[]
  cf := some (fileOf pool1 21 #[] #[{ accessFlags := 1, nameIndex := 5, descriptorIndex := 6, attributes := #[] }, { accessFlags := 9, nameIndex := 25, descriptorIndex := 26, attributes := #[] }] 49 2 #[] #[])
  fields := #[]
  methods := #[k1m0, k1m1]
  instanceTypes := #[]
  staticTypes := #[]
  resolved := Array.replicate 34 none
  statics := none }

def pool2 : Array CpInfo := pool [(1, .methodref 2 3), (0, .class_ 4), (0, .nameAndType 5 6), (0, u "java/lang/Object"), (0, u "<init>"), (0, u "()V"), (0, .class_ 8), (0, u "java/lang/Record")] 13

def k2c0 : Code := { maxStack := 1, maxLocals := 1, code := jdk_30_method_1_code, exceptionTable := #[], attributes := #[] }
def k2m0 : Method := { name := "<init>", desc := "()V", sig := { parameters := [], returnType := none }, accessFlags := 4, code := some k2c0 }
/-- java/lang/Record -/
def k2 : Class := { plain "java/lang/Record" (some 0) with
  accessFlags := 1057
  interfaces := #[]
  cf := some (fileOf pool2 7 #[] #[{ accessFlags := 4, nameIndex := 5, descriptorIndex := 6, attributes := #[] }] 1057 2 #[] #[])
  fields := #[]
  methods := #[k2m0]
  instanceTypes := #[]
  staticTypes := #[]
  resolved := Array.replicate 22 none
  statics := none }

def pool3 : Array CpInfo := pool [(1, .class_ 2), (0, u "com/example/tattle/tattle/antientropy/HashTrees"), (0, .methodref 4 5), (0, .class_ 6), (0, .nameAndType 7 8), (0, u "java/lang/Record"), (0, u "<init>"), (0, u "()V"), (0, .fieldref 10 11), (0, .class_ 12), (0, .nameAndType 13 14), (0, u "com/example/tattle/tattle/antientropy/HashTrees$Node"), (0, u "partition"), (0, u "I"), (0, .fieldref 10 16), (0, .nameAndType 17 14), (0, u "depth"), (0, .fieldref 10 19), (0, .nameAndType 20 21), (0, u "prefix"), (0, u "J"), (2, u "(IIJ)V"), (27, u "()J"), (27, u "covers"), (0, u "(J)Z"), (3, u "first")] 39

def k3c0 : Code := { maxStack := 3, maxLocals := 5, code := prog_9_method_1_code, exceptionTable := #[], attributes := #[] }
def k3m0 : Method := { name := "<init>", desc := "(IIJ)V", sig := { parameters := [.int, .int, .long], returnType := none }, accessFlags := 0, code := some k3c0 }
def k3c1 : Code := { maxStack := 5, maxLocals := 3, code := prog_9_method_4_code, exceptionTable := #[], attributes := #[] }
def k3m1 : Method := { name := "covers", desc := "(J)Z", sig := { parameters := [.long], returnType := some .boolean }, accessFlags := 0, code := some k3c1 }
def k3c2 : Code := { maxStack := 5, maxLocals := 1, code := prog_9_method_6_code, exceptionTable := #[], attributes := #[] }
def k3m2 : Method := { name := "first", desc := "()J", sig := { parameters := [], returnType := some .long }, accessFlags := 0, code := some k3c2 }
/-- com/example/tattle/tattle/antientropy/HashTrees$Node -/
def k3 : Class := { plain "com/example/tattle/tattle/antientropy/HashTrees$Node" (some 2) with
  accessFlags := 48
  interfaces := #[]
  cf := some (fileOf pool3 10 #[.nestHost 1] #[{ accessFlags := 0, nameIndex := 7, descriptorIndex := 24, attributes := #[] }, { accessFlags := 0, nameIndex := 80, descriptorIndex := 81, attributes := #[] }, { accessFlags := 0, nameIndex := 85, descriptorIndex := 52, attributes := #[] }] 48 4 #[] #[{ accessFlags := 18, nameIndex := 13, descriptorIndex := 14, attributes := #[] }, { accessFlags := 18, nameIndex := 17, descriptorIndex := 14, attributes := #[] }, { accessFlags := 18, nameIndex := 20, descriptorIndex := 21, attributes := #[] }])
  fields := #[{ name := "partition", type := .int, accessFlags := 18, slot := 0, constantValue := 0 }, { name := "depth", type := .int, accessFlags := 18, slot := 1, constantValue := 0 }, { name := "prefix", type := .long, accessFlags := 18, slot := 2, constantValue := 0 }]
  methods := #[k3m0, k3m1, k3m2]
  instanceTypes := #[.int, .int, .long]
  staticTypes := #[]
  resolved := Array.replicate 125 none
  statics := none }

def pool4 : Array CpInfo := pool [(1, u "java/lang/Cloneable"), (0, .class_ 1), (0, u "java/lang/Object"), (0, .class_ 3)] 3

/-- java/lang/Cloneable -/
def k4 : Class := { plain "java/lang/Cloneable" (some 0) with
  accessFlags := 1537
  interfaces := #[]
  cf := some (fileOf pool4 2 #[] #[] 1537 4 #[] #[])
  fields := #[]
  methods := #[]
  instanceTypes := #[]
  staticTypes := #[]
  resolved := Array.replicate 8 none
  statics := none }

def pool5 : Array CpInfo := pool [(1, u "java/io/Serializable"), (0, .class_ 1), (0, u "java/lang/Object"), (0, .class_ 3)] 3

/-- java/io/Serializable -/
def k5 : Class := { plain "java/io/Serializable" (some 0) with
  accessFlags := 1537
  interfaces := #[]
  cf := some (fileOf pool5 2 #[] #[] 1537 4 #[] #[])
  fields := #[]
  methods := #[]
  instanceTypes := #[]
  staticTypes := #[]
  resolved := Array.replicate 8 none
  statics := none }

/-- the primitive byte -/
def k6 : Class := { plain "byte" none with kind := .primitive 'B', accessFlags := 0x411 }
/-- [B -/
def k7 : Class := { plain "[B" (some 0) with kind := .array 6 .byte, interfaces := #[4, 5], accessFlags := 1041 }

/-- the primitive int -/
def k8 : Class := { plain "int" none with kind := .primitive 'I', accessFlags := 0x411 }
/-- [I -/
def k9 : Class := { plain "[I" (some 0) with kind := .array 8 .int, interfaces := #[4, 5], accessFlags := 1041 }

def heap : Heap := #[]
def classes : Array Class := #[k0, k1, k2, k3, k4, k5, k6, k7, k8, k9]
def interned : List (Array UInt16 × Addr) := []
def slotsUsed : Nat := 0
def theMethod : MethodId := ⟨1, 1⟩
def args0 : Array Value := #[.int 5, .int 5, .long 5]
def aboutOver (below : List Frame) : State where
  vm := { classes := classes, interned := interned.toArray }
  heap := heap
  slotsUsed := slotsUsed
  threads := #[{ frames := .invoking theMethod args0 :: below }]
def below0 : List Frame := [.native { method := ⟨0, 0⟩, args := #[] }]
def about1 : State := aboutOver below0
def p0 : Program := .bare "" "" ""
def e0 : Env := launch0.env 0 0 0
theorem w_frames : about1.frames = Frame.invoking theMethod args0 :: below0 := rfl
set_option maxRecDepth 65536 in
theorem w_args : argsFit about1.vm theMethod args0 = true := by decide +kernel
set_option maxRecDepth 65536 in
theorem w_heap : heapFits about1 = true := by decide +kernel
set_option maxRecDepth 65536 in
theorem w_runnable : about1.curStatus? = some .runnable := by decide +kernel
set_option maxRecDepth 65536 in
theorem w_alone : about1.alone = true := by decide +kernel
set_option maxRecDepth 65536 in
theorem w_named : about1.methodNamed? x = some theMethod := by decide +kernel
set_option maxRecDepth 65536 in
theorem w_hears : about1.hears theMethod below0 = true := by decide +kernel
set_option maxRecDepth 65536 in
theorem w_ripe : about1.ripe theMethod args0 below0 = true := by decide +kernel
theorem w_running : about1.status = .running := rfl
set_option maxRecDepth 65536 in
theorem w_room : about1.hasRoom e0.platform room_1 = true :=
  launch0.hasRoom_least _ room_1 (by decide +kernel) (by decide +kernel) (by decide +kernel) (by decide +kernel) (by decide +kernel) (by decide +kernel)
theorem allAtoms_all (ts : List Jvm.Cond) (a : Array Jvm.Value) (st : Jvm.State) : (allAtoms ts).before a st = ts.all (fun c => c.before a st) := by
  induction ts with
  | nil => rfl
  | cons c t ih =>
    show (Jvm.Cond.and c (allAtoms t)).before a st = _
    rw [Jvm.Cond.before_and, ih, List.all_cons]
def words1 : List Jvm.Cond := Jvm.Cond.code x code maxLocals ret :: tables_1
/-- a 'code' word, met by the world's own term for the bytes: nothing is compared byte by byte -/
theorem code_word {y : MethodName} {bytes : ByteArray} {mx : Nat} {rt : Option FieldType} {a : Array Value} {s : State} {m : MethodId} {meth : Method} {c : Code} (h1 : s.methodNamed? y = some m) (h2 : s.vm.method? m = some meth) (h3 : meth.code = some c) (h4 : c.code = bytes)
    (h5 : (c.maxLocals == mx && c.exceptionTable.isEmpty && decide (c.maxStack ≤ mostOperands) && decide (meth.sig.returnType = rt) && !meth.locks && decide (parseMethodDescriptor y.desc = some meth.sig)) = true) : (Jvm.Cond.code y bytes mx rt).before a s = true := by
  simp only [Bool.and_eq_true, beq_iff_eq, Bool.not_eq_true', decide_eq_true_eq] at h5
  obtain ⟨⟨⟨⟨⟨g1, g2⟩, g3⟩, g4⟩, g5⟩, g6⟩ := h5
  simp [Cond.before, Cond.holds, Cond.value, h1, h2, h3, h4, g1, g2, g3, g4, g5, g6]
def isCode : Jvm.Cond → Bool
  | .code _ _ _ _ => true
  | _ => false
theorem all_split {L : List Jvm.Cond} {P : Jvm.Cond → Bool} (h1 : L.all (fun c => isCode c || P c) = true) (h2 : ∀ c ∈ L.filter isCode, P c = true) : L.all P = true := by
  refine List.all_eq_true.mpr fun c hc => ?_
  have h := List.all_eq_true.mp h1 c hc
  rcases Bool.eq_false_or_eq_true (isCode c) with hi | hi
  · exact h2 c (List.mem_filter.mpr ⟨hc, hi⟩)
  · simpa [hi] using h
set_option maxRecDepth 65536 in
theorem w_c0 : (Jvm.Cond.code x code maxLocals ret).before args0 about1 = true := code_word (m := ⟨1, 1⟩) (meth := k1m1) (c := k1c1) (by decide +kernel) rfl rfl rfl (by decide +kernel)
set_option maxRecDepth 65536 in
theorem w_c1 : (Jvm.Cond.code ({ cls := "com/example/tattle/tattle/antientropy/HashTrees$Node", name := "<init>", desc := "(IIJ)V" } : Jvm.MethodName) prog_9_method_1_code (5 : Nat) (Option.none : Option Jvm.ClassFile.FieldType)).before args0 about1 = true := code_word (m := ⟨3, 0⟩) (meth := k3m0) (c := k3c0) (by decide +kernel) rfl rfl rfl (by decide +kernel)
set_option maxRecDepth 65536 in
theorem w_c2 : (Jvm.Cond.code ({ cls := "java/lang/Record", name := "<init>", desc := "()V" } : Jvm.MethodName) jdk_30_method_1_code (1 : Nat) (Option.none : Option Jvm.ClassFile.FieldType)).before args0 about1 = true := code_word (m := ⟨2, 0⟩) (meth := k2m0) (c := k2c0) (by decide +kernel) rfl rfl rfl (by decide +kernel)
set_option maxRecDepth 65536 in
theorem w_c3 : (Jvm.Cond.code ({ cls := "java/lang/Object", name := "<init>", desc := "()V" } : Jvm.MethodName) object_method_1_code (1 : Nat) (Option.none : Option Jvm.ClassFile.FieldType)).before args0 about1 = true := code_word (m := ⟨0, 0⟩) (meth := k0m0) (c := k0c0) (by decide +kernel) rfl rfl rfl (by decide +kernel)
set_option maxRecDepth 65536 in
theorem w_c4 : (Jvm.Cond.code ({ cls := "com/example/tattle/tattle/antientropy/HashTrees$Node", name := "first", desc := "()J" } : Jvm.MethodName) prog_9_method_6_code (1 : Nat) (Option.some Jvm.ClassFile.FieldType.long)).before args0 about1 = true := code_word (m := ⟨3, 2⟩) (meth := k3m2) (c := k3c2) (by decide +kernel) rfl rfl rfl (by decide +kernel)
set_option maxRecDepth 65536 in
theorem w_c5 : (Jvm.Cond.code ({ cls := "com/example/tattle/tattle/antientropy/HashTrees$Node", name := "covers", desc := "(J)Z" } : Jvm.MethodName) prog_9_method_4_code (3 : Nat) (Option.some Jvm.ClassFile.FieldType.boolean)).before args0 about1 = true := code_word (m := ⟨3, 1⟩) (meth := k3m1) (c := k3c1) (by decide +kernel) rfl rfl rfl (by decide +kernel)
def codes1 : List Jvm.Cond := [Jvm.Cond.code x code maxLocals ret, Jvm.Cond.code ({ cls := "com/example/tattle/tattle/antientropy/HashTrees$Node", name := "<init>", desc := "(IIJ)V" } : Jvm.MethodName) prog_9_method_1_code (5 : Nat) (Option.none : Option Jvm.ClassFile.FieldType), Jvm.Cond.code ({ cls := "java/lang/Record", name := "<init>", desc := "()V" } : Jvm.MethodName) jdk_30_method_1_code (1 : Nat) (Option.none : Option Jvm.ClassFile.FieldType), Jvm.Cond.code ({ cls := "java/lang/Object", name := "<init>", desc := "()V" } : Jvm.MethodName) object_method_1_code (1 : Nat) (Option.none : Option Jvm.ClassFile.FieldType), Jvm.Cond.code ({ cls := "com/example/tattle/tattle/antientropy/HashTrees$Node", name := "first", desc := "()J" } : Jvm.MethodName) prog_9_method_6_code (1 : Nat) (Option.some Jvm.ClassFile.FieldType.long), Jvm.Cond.code ({ cls := "com/example/tattle/tattle/antientropy/HashTrees$Node", name := "covers", desc := "(J)Z" } : Jvm.MethodName) prog_9_method_4_code (3 : Nat) (Option.some Jvm.ClassFile.FieldType.boolean)]
set_option maxRecDepth 65536 in
theorem codes_eq : words1.filter isCode = codes1 := rfl
theorem w_codes : ∀ c ∈ words1.filter isCode, c.before args0 about1 = true := by
  rw [codes_eq]
  intro c hc
  simp only [codes1, List.mem_cons, List.not_mem_nil, or_false] at hc
  rcases hc with rfl | rfl | rfl | rfl | rfl | rfl
  · exact w_c0
  · exact w_c1
  · exact w_c2
  · exact w_c3
  · exact w_c4
  · exact w_c5
set_option maxRecDepth 65536 in
theorem w_t1 : (words1.take 24).all (fun c => isCode c || c.before args0 about1) = true := by decide +kernel
set_option maxRecDepth 65536 in
theorem w_t2 : (words1.drop 24).all (fun c => isCode c || c.before args0 about1) = true := by decide +kernel
theorem w_tables : (allAtoms (Jvm.Cond.code x code maxLocals ret :: tables_1)).before args0 about1 = true := by
  rw [allAtoms_all]
  show words1.all (fun c => c.before args0 about1) = true
  refine all_split ?_ w_codes
  rw [← List.take_append_drop 24 words1, List.all_append, w_t1, w_t2]
  rfl
set_option maxRecDepth 65536 in
theorem w_case : (Jvm.Cond.and given_1 narrow_1).before args0 about1 = true := by decide +kernel
theorem w_applies : (headSpec (Jvm.Cond.code x code maxLocals ret :: tables_1) room_1).applies x e0.platform about1 = true :=
  (Spec.applies_iff w_frames).mpr ⟨w_running, w_runnable, w_alone, w_named, w_hears, w_ripe, w_room, w_tables⟩
theorem atStart : AtStart classFile x code maxLocals ret World_1 tables_1 room_1 Calls_1 rest_1 Pre_1 launch0 p0 e0 about1 theMethod args0 below0 :=
  ⟨lists_1, trivial, launch0.admits_env _ _ _, launch0.least_env, fairChoices_fair.cas, fairChoices_fair.clock, w_frames, w_args, w_heap, w_applies, trivial, trivial, w_case⟩
end start1
theorem witness_1 : WitnessClaimed_1 := ⟨start1.p0, start1.e0, start1.about1, start1.theMethod, start1.args0, start1.below0, start1.atStart⟩
end Jvm.Pilot.@@N@@
