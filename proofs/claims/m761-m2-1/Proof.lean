import JvmDerived
import JvmDerived.Pilot.@@N@@Statement
import JvmDerived.Pilot.@@N@@Code
set_option linter.unusedVariables false
set_option linter.unusedSimpArgs false
namespace Jvm.RoadKit
open Sem ClassFile Op Lib Jvm.Stand Jvm.Free Jvm.LawKit
section New
variable {p : Program} {l : Launch} {e : Env} {R : Room} {s : State} {m : MethodId} {args : Array Value} {below : List Frame} {meth : Method} {c : Code} {T : State} {locs : List Loc} {cells slots : Nat}
theorem retI (X : Stand p l e R s m args below meth c T locs cells slots) (hx : p.tables.exec = Jvm.exec) {pc : Nat} {Ls : Array Slot} {z : Int32} {rest : List Value} (hret : meth.sig.returnType = some .int) (hd : decode c.code pc = .ok (.ireturn, 1)) {fs : List Frame}
    (hl : ∀ (f : JFrame) (acts : List Action), f.method = m → f.locked = none → f.entered = [] → (doReturn e (T.setTop f) acts (some (.int z))).1 = T.setFrames fs) : Steps p.tables e below (T.setTop (mkF m pc Ls (.int z :: rest))) (T.setFrames fs) := by
  have hm' : T.vm.method? m = some meth := X.method'
  have hn : narrow .int (.int z) = .int z := rfl
  show Steps p.tables e below (T.setTop { method := m, pc := pc, locals := Ls, stack := _ :: rest, locked := none }) _
  jvm_step X.here [X.here.top, hx, hd, hm', hret, hn]
  first | (intro acts; rw [hl _ acts rfl rfl rfl]) | rw [hl _ _ rfl rfl rfl]
  exact Steps.refl _
theorem retA (X : Stand p l e R s m args below meth c T locs cells slots) (hx : p.tables.exec = Jvm.exec) {pc : Nat} {Ls : Array Slot} {a : Addr} {t : FieldType} {rest : List Value} (hret : meth.sig.returnType = some t) (ht : t.isReference = true) (hn : narrow t (.ref a) = .ref a) (hd : decode c.code pc = .ok (.areturn, 1)) {fs : List Frame}
    (hl : ∀ (f : JFrame) (acts : List Action), f.method = m → f.locked = none → f.entered = [] → (doReturn e (T.setTop f) acts (some (.ref a))).1 = T.setFrames fs) : Steps p.tables e below (T.setTop (mkF m pc Ls (.ref a :: rest))) (T.setFrames fs) :=
  retOut X hx hret hn (Or.inr (Or.inr (Or.inr (Or.inr ⟨rfl, ht, rfl⟩)))) hd hl
def Gd (tb : Tables) (e : Env) (below : List Frame) (P : State → Outcome → Prop) (A : State) : Prop := ∃ t o, Steps tb e below A t ∧ P t o
theorem Gd.out {tb : Tables} {P : State → Outcome → Prop} {A : State} (h : Gd tb e below P A) : ∃ t o, Steps tb e below A t ∧ P t o := h
theorem Gd.st {tb : Tables} {P : State → Outcome → Prop} {A B : State} (h : ∀ t, Steps tb e below B t → Steps tb e below A t) (k : Gd tb e below P B) : Gd tb e below P A := by
  obtain ⟨t, o, k1, k2⟩ := k; exact ⟨t, o, h t k1, k2⟩
theorem Gd.join {tb : Tables} {P : State → Outcome → Prop} {A B : State} (h : Gd tb e below P B → Gd tb e below P A) (k : Gd tb e below P B) : Gd tb e below P A := h k
theorem Gd.mk {tb : Tables} {P : State → Outcome → Prop} {A t : State} {o : Outcome} (h : Steps tb e below A t) (k : P t o) : Gd tb e below P A := ⟨t, o, h, k⟩
end New
end Jvm.RoadKit
namespace Jvm.Pilot.@@N@@
open Jvm Jvm.ClassFile Sem Op Lib Jvm.Free Jvm.Stand Jvm.LawKit Jvm.RoadKit Bundle Jvm.Pilot.@@N@@.Jvm.D
def own_xs (z : Int64) (k : Int32) : Int64 := z ^^^ ((z.toUInt64 >>> (k &&& 0x3f).toInt64.toUInt64).toInt64)
def own_ux (z : Int64) (k k2 : Int32) : Int64 := (z ^^^ ((z.toUInt64 >>> (k &&& 0x3f).toInt64.toUInt64).toInt64)) ^^^ ((z.toUInt64 >>> (k2 &&& 0x3f).toInt64.toUInt64).toInt64)
def own_a (p : Int32) : Int64 := (p + (1 : Int32)).toInt64 * (-7046029254386353131 : Int64)
def own_b (z : Int64) : Int64 := own_xs z (30 : Int32) * (-4658895280553007687 : Int64)
def own_c (z : Int64) : Int64 := own_xs z (27 : Int32) * (-7723592293110705685 : Int64)
def own_key (p : Int32) : Int64 := own_xs (own_c (own_b (own_a p))) (31 : Int32)
def own_u1 (z : Int64) : Int64 := own_ux z (31 : Int32) (62 : Int32) * (3573116690164977347 : Int64)
def own_u2 (z : Int64) : Int64 := own_ux z (27 : Int32) (54 : Int32) * (-7575587736534282103 : Int64)
def own_u3 (z : Int64) : Int64 := own_ux z (30 : Int32) (60 : Int32) * (-1018231460777725123 : Int64)
def own_unmix (z : Int64) : Int64 := own_u3 (own_u2 (own_u1 z))
theorem own_bv (x : BitVec 64) (k : Nat) (h : 64 ≤ 3 * k) : ((x ^^^ (x >>> k)) ^^^ ((x ^^^ (x >>> k)) >>> k)) ^^^ ((x ^^^ (x >>> k)) >>> (2 * k)) = x := by
  apply BitVec.eq_of_getLsbD_eq
  intro i hi
  have e : x.getLsbD (k + (2 * k + i)) = false := BitVec.getLsbD_of_ge _ _ (by omega)
  have e1 : k + (k + i) = 2 * k + i := by omega
  simp only [BitVec.getLsbD_xor, BitVec.getLsbD_ushiftRight, e, e1]
  cases x.getLsbD i <;> cases x.getLsbD (k + i) <;> cases x.getLsbD (2 * k + i) <;> rfl
theorem own_sx (z : Int64) (k : Int32) (n : Nat) (h : ((k &&& 0x3f).toInt64.toUInt64.toBitVec % 64#64).toNat = n) : ((z.toUInt64 >>> (k &&& 0x3f).toInt64.toUInt64).toInt64).toBitVec = z.toBitVec >>> n := by
  show z.toBitVec >>> ((k &&& 0x3f).toInt64.toUInt64.toBitVec % 64#64).toNat = _
  rw [h]
theorem own_inv (z : Int64) (k k2 : Int32) (n : Nat) (h3 : 64 ≤ 3 * n) (h : ((k &&& 0x3f).toInt64.toUInt64.toBitVec % 64#64).toNat = n) (h2 : ((k2 &&& 0x3f).toInt64.toUInt64.toBitVec % 64#64).toNat = 2 * n) : own_ux (own_xs z k) k k2 = z := by
  apply Int64.toBitVec_inj.mp
  unfold own_ux own_xs
  simp only [Int64.toBitVec_xor, own_sx _ k n h, own_sx _ k2 (2 * n) h2]
  exact own_bv _ n h3
theorem own_law (p : Int32) : own_unmix (own_key p) = (p + (1 : Int32)).toInt64 := by
  unfold own_unmix own_key own_u1
  rw [own_inv _ 31 62 31 (by decide) (by decide) (by decide)]
  unfold own_c own_u2
  rw [Int64.mul_assoc, show (-7723592293110705685 : Int64) * 3573116690164977347 = 1 from by decide, Int64.mul_one, own_inv _ 27 54 27 (by decide) (by decide) (by decide)]
  unfold own_b own_u3
  rw [Int64.mul_assoc, show (-4658895280553007687 : Int64) * -7575587736534282103 = 1 from by decide, Int64.mul_one, own_inv _ 30 60 30 (by decide) (by decide) (by decide)]
  unfold own_a
  rw [Int64.mul_assoc, show (-7046029254386353131 : Int64) * -1018231460777725123 = 1 from by decide, Int64.mul_one]
theorem d1_0 : decode prog_73_method_2_code 0 = .ok (.iload_n 0, 1) := by decide +kernel
theorem d1_1 : decode prog_73_method_2_code 1 = .ok (.iconst 1, 1) := by decide +kernel
theorem d1_2 : decode prog_73_method_2_code 2 = .ok (.iadd, 1) := by decide +kernel
theorem d1_3 : decode prog_73_method_2_code 3 = .ok (.i2l, 1) := by decide +kernel
theorem d1_4 : decode prog_73_method_2_code 4 = .ok (.ldc2_w 30, 3) := by decide +kernel
theorem d1_7 : decode prog_73_method_2_code 7 = .ok (.lmul, 1) := by decide +kernel
theorem d1_8 : decode prog_73_method_2_code 8 = .ok (.lstore_n 1, 1) := by decide +kernel
theorem d1_9 : decode prog_73_method_2_code 9 = .ok (.lload_n 1, 1) := by decide +kernel
theorem d1_10 : decode prog_73_method_2_code 10 = .ok (.lload_n 1, 1) := by decide +kernel
theorem d1_11 : decode prog_73_method_2_code 11 = .ok (.bipush 30, 2) := by decide +kernel
theorem d1_13 : decode prog_73_method_2_code 13 = .ok (.lushr, 1) := by decide +kernel
theorem d1_14 : decode prog_73_method_2_code 14 = .ok (.lxor, 1) := by decide +kernel
theorem d1_15 : decode prog_73_method_2_code 15 = .ok (.ldc2_w 32, 3) := by decide +kernel
theorem d1_18 : decode prog_73_method_2_code 18 = .ok (.lmul, 1) := by decide +kernel
theorem d1_19 : decode prog_73_method_2_code 19 = .ok (.lstore_n 1, 1) := by decide +kernel
theorem d1_20 : decode prog_73_method_2_code 20 = .ok (.lload_n 1, 1) := by decide +kernel
theorem d1_21 : decode prog_73_method_2_code 21 = .ok (.lload_n 1, 1) := by decide +kernel
theorem d1_22 : decode prog_73_method_2_code 22 = .ok (.bipush 27, 2) := by decide +kernel
theorem d1_24 : decode prog_73_method_2_code 24 = .ok (.lushr, 1) := by decide +kernel
theorem d1_25 : decode prog_73_method_2_code 25 = .ok (.lxor, 1) := by decide +kernel
theorem d1_26 : decode prog_73_method_2_code 26 = .ok (.ldc2_w 34, 3) := by decide +kernel
theorem d1_29 : decode prog_73_method_2_code 29 = .ok (.lmul, 1) := by decide +kernel
theorem d1_30 : decode prog_73_method_2_code 30 = .ok (.lstore_n 1, 1) := by decide +kernel
theorem d1_31 : decode prog_73_method_2_code 31 = .ok (.lload_n 1, 1) := by decide +kernel
theorem d1_32 : decode prog_73_method_2_code 32 = .ok (.lload_n 1, 1) := by decide +kernel
theorem d1_33 : decode prog_73_method_2_code 33 = .ok (.bipush 31, 2) := by decide +kernel
theorem d1_35 : decode prog_73_method_2_code 35 = .ok (.lushr, 1) := by decide +kernel
theorem d1_36 : decode prog_73_method_2_code 36 = .ok (.lxor, 1) := by decide +kernel
theorem d1_37 : decode prog_73_method_2_code 37 = .ok (.lreturn, 1) := by decide +kernel
theorem pn_ConfigurationSet : plainName "com/example/linearis/linearis/search/ConfigurationSet" = true := by first | (simp [plainName, overriddenIn]; done) | decide +kernel
theorem ef_1 (m : MethodId) (x0 : Int32) : entryFrame m #[(.int x0)] 3 = mkF m 0 #[.val (.int x0), .unset, .unset] [] := by first | (simp [entryFrame, mkF, argsToLocals, Value.category]; done) | rfl
def Q1 (Z : State) (p1 : Int32) (h0 : Heap) (n0 : Nat) (v : Option Value) (h : Heap) (L : List Loc) : Prop := v = some (.long (own_key p1)) ∧ Fr n0 L ∧ h = h0
set_option maxRecDepth 65536 in
set_option maxHeartbeats 40000000 in
theorem rm1 (l : Launch) (Z : State) (a0 : Array Value) (hw : ∀ d ∈ tables_1, d.before a0 Z = true) (ws : List Jvm.Cond) (p1 : Int32) (h0 : Heap) (n0 : Nat) (Z0 : n0 ≤ h0.size) :
    MetFree l (⟨"com/example/linearis/linearis/search/ConfigurationSet", "keyOf", "(I)J"⟩ : MethodName) (head1 (Jvm.Cond.code (⟨"com/example/linearis/linearis/search/ConfigurationSet", "keyOf", "(I)J"⟩ : MethodName) prog_73_method_2_code 3 (some .long) :: ws) ({ frames := 0, cells := 0, slots := 0, locals := 0 } : Room)) (fun a U => a = #[(.int p1)] ∧ Z.Warmed39 U.vm ∧ U.heap = h0) (fun _ _ _ _ _ => True) (fun _ U o U' => ∃ v L, o = .returned v ∧ Q1 Z p1 h0 n0 v U'.heap L ∧ FrameEnd U o U' L ({ frames := 0, cells := 0, slots := 0, locals := 0 } : Room).cells ({ frames := 0, cells := 0, slots := 0, locals := 0 } : Room).slots) := by
  refine MetFree.of_bodySF (plainFor_of_name pn_ConfigurationSet) hisR ?_
  intro p e s m args below meth c s₁ Bd hml0 hP hK
  obtain ⟨rfl, hZ, hh⟩ := hP
  have hx := Bd.exec
  have hby := Bd.bytes
  have hml : c.maxLocals = 3 := hml0
  have hown : s.vm.findClass "com/example/linearis/linearis/search/ConfigurationSet" = some m.cls := findClass_of_methodNamed Bd.named
  have hnm := (name_of_methodNamed Bd.named Bd.method).1
  have X0 : Stand p l e ({ frames := 0, cells := 0, slots := 0, locals := 0 } : Room) s m #[(.int p1)] below meth c s₁ [] 0 0 := Stand.of_body Bd
  have e0 : s₁.heap = h0 := by rw [← hh, Bd.state]; rfl
  have N0 := Fr.nil n0
  refine Gd.out (Gd.st (fun t k => castTop (ef_1 m p1) k) ?_)
  show Gd p.tables e below _ (s₁.setTop (mkF m 0 #[.val (.int p1), .unset, .unset] []))
  refine Gd.st (fun _ k => XS.iloadN X0.here hx rfl (hb hby d1_0) rfl k) ?_
  show Gd p.tables e below _ (s₁.setTop (mkF m 1 #[.val (.int p1), .unset, .unset] [(.int p1)]))
  refine Gd.st (fun _ k => XS.iconst X0.here hx rfl (hb hby d1_1) k) ?_
  show Gd p.tables e below _ (s₁.setTop (mkF m 2 #[.val (.int p1), .unset, .unset] [(.int (1 : Int32)), (.int p1)]))
  refine Gd.st (fun _ k => XS.iadd X0.here hx rfl (hb hby d1_2) rfl k) ?_
  show Gd p.tables e below _ (s₁.setTop (mkF m 3 #[.val (.int p1), .unset, .unset] [(.int (p1 + (1 : Int32)))]))
  refine Gd.st (fun _ k => XS.i2l X0.here hx rfl (hb hby d1_3) rfl k) ?_
  show Gd p.tables e below _ (s₁.setTop (mkF m 4 #[.val (.int p1), .unset, .unset] [(.long ((p1 + (1 : Int32)).toInt64))]))
  refine Gd.st (fun _ k => X0.ldc2Long hx hown (mvT hZ (hw _ (List.mem_of_getElem? (i := 4) rfl))) (g := (mkF m 4 #[.val (.int p1), .unset, .unset] [(.long ((p1 + (1 : Int32)).toInt64))])) rfl (hb hby d1_4) _ k) ?_
  show Gd p.tables e below _ (s₁.setTop (mkF m 7 #[.val (.int p1), .unset, .unset] [(.long (-7046029254386353131 : Int64)), (.long ((p1 + (1 : Int32)).toInt64))]))
  refine Gd.st (fun _ k => XS.lmul X0.here hx rfl (hb hby d1_7) rfl k) ?_
  show Gd p.tables e below _ (s₁.setTop (mkF m 8 #[.val (.int p1), .unset, .unset] [(.long (own_a p1))]))
  refine Gd.st (fun _ k => XS.lstoreN X0.here hx rfl (hb hby d1_8) rfl (l' := #[.val (.int p1), .val (.long (own_a p1)), .second]) rfl k) ?_
  show Gd p.tables e below _ (s₁.setTop (mkF m 9 #[.val (.int p1), .val (.long (own_a p1)), .second] []))
  refine Gd.st (fun _ k => XS.lloadN X0.here hx rfl (hb hby d1_9) rfl k) ?_
  show Gd p.tables e below _ (s₁.setTop (mkF m 10 #[.val (.int p1), .val (.long (own_a p1)), .second] [(.long (own_a p1))]))
  refine Gd.st (fun _ k => XS.lloadN X0.here hx rfl (hb hby d1_10) rfl k) ?_
  show Gd p.tables e below _ (s₁.setTop (mkF m 11 #[.val (.int p1), .val (.long (own_a p1)), .second] [(.long (own_a p1)), (.long (own_a p1))]))
  refine Gd.st (fun _ k => XS.bipush X0.here hx rfl (hb hby d1_11) k) ?_
  show Gd p.tables e below _ (s₁.setTop (mkF m 13 #[.val (.int p1), .val (.long (own_a p1)), .second] [(.int (30 : Int32)), (.long (own_a p1)), (.long (own_a p1))]))
  refine Gd.st (fun _ k => XS.lushr X0.here hx rfl (hb hby d1_13) rfl k) ?_
  show Gd p.tables e below _ (s₁.setTop (mkF m 14 #[.val (.int p1), .val (.long (own_a p1)), .second] [(.long (((own_a p1).toUInt64 >>> ((30 : Int32) &&& 0x3f).toInt64.toUInt64).toInt64)), (.long (own_a p1))]))
  refine Gd.st (fun _ k => XS.lxor X0.here hx rfl (hb hby d1_14) rfl k) ?_
  show Gd p.tables e below _ (s₁.setTop (mkF m 15 #[.val (.int p1), .val (.long (own_a p1)), .second] [(.long (own_xs (own_a p1) (30 : Int32)))]))
  refine Gd.st (fun _ k => X0.ldc2Long hx hown (mvT hZ (hw _ (List.mem_of_getElem? (i := 5) rfl))) (g := (mkF m 15 #[.val (.int p1), .val (.long (own_a p1)), .second] [(.long (own_xs (own_a p1) (30 : Int32)))])) rfl (hb hby d1_15) _ k) ?_
  show Gd p.tables e below _ (s₁.setTop (mkF m 18 #[.val (.int p1), .val (.long (own_a p1)), .second] [(.long (-4658895280553007687 : Int64)), (.long (own_xs (own_a p1) (30 : Int32)))]))
  refine Gd.st (fun _ k => XS.lmul X0.here hx rfl (hb hby d1_18) rfl k) ?_
  show Gd p.tables e below _ (s₁.setTop (mkF m 19 #[.val (.int p1), .val (.long (own_a p1)), .second] [(.long (own_b (own_a p1)))]))
  refine Gd.st (fun _ k => XS.lstoreN X0.here hx rfl (hb hby d1_19) rfl (l' := #[.val (.int p1), .val (.long (own_b (own_a p1))), .second]) rfl k) ?_
  show Gd p.tables e below _ (s₁.setTop (mkF m 20 #[.val (.int p1), .val (.long (own_b (own_a p1))), .second] []))
  refine Gd.st (fun _ k => XS.lloadN X0.here hx rfl (hb hby d1_20) rfl k) ?_
  show Gd p.tables e below _ (s₁.setTop (mkF m 21 #[.val (.int p1), .val (.long (own_b (own_a p1))), .second] [(.long (own_b (own_a p1)))]))
  refine Gd.st (fun _ k => XS.lloadN X0.here hx rfl (hb hby d1_21) rfl k) ?_
  show Gd p.tables e below _ (s₁.setTop (mkF m 22 #[.val (.int p1), .val (.long (own_b (own_a p1))), .second] [(.long (own_b (own_a p1))), (.long (own_b (own_a p1)))]))
  refine Gd.st (fun _ k => XS.bipush X0.here hx rfl (hb hby d1_22) k) ?_
  show Gd p.tables e below _ (s₁.setTop (mkF m 24 #[.val (.int p1), .val (.long (own_b (own_a p1))), .second] [(.int (27 : Int32)), (.long (own_b (own_a p1))), (.long (own_b (own_a p1)))]))
  refine Gd.st (fun _ k => XS.lushr X0.here hx rfl (hb hby d1_24) rfl k) ?_
  show Gd p.tables e below _ (s₁.setTop (mkF m 25 #[.val (.int p1), .val (.long (own_b (own_a p1))), .second] [(.long (((own_b (own_a p1)).toUInt64 >>> ((27 : Int32) &&& 0x3f).toInt64.toUInt64).toInt64)), (.long (own_b (own_a p1)))]))
  refine Gd.st (fun _ k => XS.lxor X0.here hx rfl (hb hby d1_25) rfl k) ?_
  show Gd p.tables e below _ (s₁.setTop (mkF m 26 #[.val (.int p1), .val (.long (own_b (own_a p1))), .second] [(.long (own_xs (own_b (own_a p1)) (27 : Int32)))]))
  refine Gd.st (fun _ k => X0.ldc2Long hx hown (mvT hZ (hw _ (List.mem_of_getElem? (i := 6) rfl))) (g := (mkF m 26 #[.val (.int p1), .val (.long (own_b (own_a p1))), .second] [(.long (own_xs (own_b (own_a p1)) (27 : Int32)))])) rfl (hb hby d1_26) _ k) ?_
  show Gd p.tables e below _ (s₁.setTop (mkF m 29 #[.val (.int p1), .val (.long (own_b (own_a p1))), .second] [(.long (-7723592293110705685 : Int64)), (.long (own_xs (own_b (own_a p1)) (27 : Int32)))]))
  refine Gd.st (fun _ k => XS.lmul X0.here hx rfl (hb hby d1_29) rfl k) ?_
  show Gd p.tables e below _ (s₁.setTop (mkF m 30 #[.val (.int p1), .val (.long (own_b (own_a p1))), .second] [(.long (own_c (own_b (own_a p1))))]))
  refine Gd.st (fun _ k => XS.lstoreN X0.here hx rfl (hb hby d1_30) rfl (l' := #[.val (.int p1), .val (.long (own_c (own_b (own_a p1)))), .second]) rfl k) ?_
  show Gd p.tables e below _ (s₁.setTop (mkF m 31 #[.val (.int p1), .val (.long (own_c (own_b (own_a p1)))), .second] []))
  refine Gd.st (fun _ k => XS.lloadN X0.here hx rfl (hb hby d1_31) rfl k) ?_
  show Gd p.tables e below _ (s₁.setTop (mkF m 32 #[.val (.int p1), .val (.long (own_c (own_b (own_a p1)))), .second] [(.long (own_c (own_b (own_a p1))))]))
  refine Gd.st (fun _ k => XS.lloadN X0.here hx rfl (hb hby d1_32) rfl k) ?_
  show Gd p.tables e below _ (s₁.setTop (mkF m 33 #[.val (.int p1), .val (.long (own_c (own_b (own_a p1)))), .second] [(.long (own_c (own_b (own_a p1)))), (.long (own_c (own_b (own_a p1))))]))
  refine Gd.st (fun _ k => XS.bipush X0.here hx rfl (hb hby d1_33) k) ?_
  show Gd p.tables e below _ (s₁.setTop (mkF m 35 #[.val (.int p1), .val (.long (own_c (own_b (own_a p1)))), .second] [(.int (31 : Int32)), (.long (own_c (own_b (own_a p1)))), (.long (own_c (own_b (own_a p1))))]))
  refine Gd.st (fun _ k => XS.lushr X0.here hx rfl (hb hby d1_35) rfl k) ?_
  show Gd p.tables e below _ (s₁.setTop (mkF m 36 #[.val (.int p1), .val (.long (own_c (own_b (own_a p1)))), .second] [(.long (((own_c (own_b (own_a p1))).toUInt64 >>> ((31 : Int32) &&& 0x3f).toInt64.toUInt64).toInt64)), (.long (own_c (own_b (own_a p1))))]))
  refine Gd.st (fun _ k => XS.lxor X0.here hx rfl (hb hby d1_36) rfl k) ?_
  show Gd p.tables e below _ (s₁.setTop (mkF m 37 #[.val (.int p1), .val (.long (own_c (own_b (own_a p1)))), .second] [(.long (own_key p1))]))
  obtain ⟨fs, hr, hrun, hended, hW, hsame⟩ := X0.leave (v := some (.long (own_key p1))) (fun h => by rw [Bd.returns] at h; cases h) Bd.notSynchronized
  refine Gd.mk (o := .returned (some (.long (own_key p1)))) (X0.lreturnOut hx Bd.returns (hb hby d1_37) hr) ⟨hrun, hended, _, _, rfl, ?_, ⟨_, rfl⟩, hW, hsame.mono (by decide) (by decide)⟩
  show Q1 Z p1 h0 n0 _ s₁.heap _
  rw [e0]
  exact ⟨rfl, N0, rfl⟩
theorem d2_0 : decode method_2_code 0 = .ok (.lload_n 0, 1) := by decide +kernel
theorem d2_1 : decode method_2_code 1 = .ok (.lload_n 0, 1) := by decide +kernel
theorem d2_2 : decode method_2_code 2 = .ok (.bipush 31, 2) := by decide +kernel
theorem d2_4 : decode method_2_code 4 = .ok (.lushr, 1) := by decide +kernel
theorem d2_5 : decode method_2_code 5 = .ok (.lxor, 1) := by decide +kernel
theorem d2_6 : decode method_2_code 6 = .ok (.lload_n 0, 1) := by decide +kernel
theorem d2_7 : decode method_2_code 7 = .ok (.bipush 62, 2) := by decide +kernel
theorem d2_9 : decode method_2_code 9 = .ok (.lushr, 1) := by decide +kernel
theorem d2_10 : decode method_2_code 10 = .ok (.lxor, 1) := by decide +kernel
theorem d2_11 : decode method_2_code 11 = .ok (.lstore_n 2, 1) := by decide +kernel
theorem d2_12 : decode method_2_code 12 = .ok (.lload_n 2, 1) := by decide +kernel
theorem d2_13 : decode method_2_code 13 = .ok (.ldc2_w 7, 3) := by decide +kernel
theorem d2_16 : decode method_2_code 16 = .ok (.lmul, 1) := by decide +kernel
theorem d2_17 : decode method_2_code 17 = .ok (.lstore 4, 2) := by decide +kernel
theorem d2_19 : decode method_2_code 19 = .ok (.lload 4, 2) := by decide +kernel
theorem d2_21 : decode method_2_code 21 = .ok (.lload 4, 2) := by decide +kernel
theorem d2_23 : decode method_2_code 23 = .ok (.bipush 27, 2) := by decide +kernel
theorem d2_25 : decode method_2_code 25 = .ok (.lushr, 1) := by decide +kernel
theorem d2_26 : decode method_2_code 26 = .ok (.lxor, 1) := by decide +kernel
theorem d2_27 : decode method_2_code 27 = .ok (.lload 4, 2) := by decide +kernel
theorem d2_29 : decode method_2_code 29 = .ok (.bipush 54, 2) := by decide +kernel
theorem d2_31 : decode method_2_code 31 = .ok (.lushr, 1) := by decide +kernel
theorem d2_32 : decode method_2_code 32 = .ok (.lxor, 1) := by decide +kernel
theorem d2_33 : decode method_2_code 33 = .ok (.lstore 6, 2) := by decide +kernel
theorem d2_35 : decode method_2_code 35 = .ok (.lload 6, 2) := by decide +kernel
theorem d2_37 : decode method_2_code 37 = .ok (.ldc2_w 9, 3) := by decide +kernel
theorem d2_40 : decode method_2_code 40 = .ok (.lmul, 1) := by decide +kernel
theorem d2_41 : decode method_2_code 41 = .ok (.lstore 8, 2) := by decide +kernel
theorem d2_43 : decode method_2_code 43 = .ok (.lload 8, 2) := by decide +kernel
theorem d2_45 : decode method_2_code 45 = .ok (.lload 8, 2) := by decide +kernel
theorem d2_47 : decode method_2_code 47 = .ok (.bipush 30, 2) := by decide +kernel
theorem d2_49 : decode method_2_code 49 = .ok (.lushr, 1) := by decide +kernel
theorem d2_50 : decode method_2_code 50 = .ok (.lxor, 1) := by decide +kernel
theorem d2_51 : decode method_2_code 51 = .ok (.lload 8, 2) := by decide +kernel
theorem d2_53 : decode method_2_code 53 = .ok (.bipush 60, 2) := by decide +kernel
theorem d2_55 : decode method_2_code 55 = .ok (.lushr, 1) := by decide +kernel
theorem d2_56 : decode method_2_code 56 = .ok (.lxor, 1) := by decide +kernel
theorem d2_57 : decode method_2_code 57 = .ok (.lstore 10, 2) := by decide +kernel
theorem d2_59 : decode method_2_code 59 = .ok (.lload 10, 2) := by decide +kernel
theorem d2_61 : decode method_2_code 61 = .ok (.ldc2_w 11, 3) := by decide +kernel
theorem d2_64 : decode method_2_code 64 = .ok (.lmul, 1) := by decide +kernel
theorem d2_65 : decode method_2_code 65 = .ok (.lreturn, 1) := by decide +kernel
theorem pn_ConfigurationSetKeyOfPinLaw : plainName "com/example/linearis/linearis/search/ConfigurationSetKeyOfPinLaw" = true := by first | (simp [plainName, overriddenIn]; done) | decide +kernel
theorem ef_2 (m : MethodId) (x0 : Int64) : entryFrame m #[(.long x0)] 12 = mkF m 0 #[.val (.long x0), .second, .unset, .unset, .unset, .unset, .unset, .unset, .unset, .unset, .unset, .unset] [] := by first | (simp [entryFrame, mkF, argsToLocals, Value.category]; done) | rfl
def Q2 (Z : State) (p1 : Int64) (h0 : Heap) (n0 : Nat) (v : Option Value) (h : Heap) (L : List Loc) : Prop := v = some (.long (own_unmix p1)) ∧ Fr n0 L ∧ h = h0
set_option maxRecDepth 65536 in
set_option maxHeartbeats 40000000 in
theorem rm2 (l : Launch) (Z : State) (a0 : Array Value) (hw : ∀ d ∈ tables_1, d.before a0 Z = true) (ws : List Jvm.Cond) (p1 : Int64) (h0 : Heap) (n0 : Nat) (Z0 : n0 ≤ h0.size) :
    MetFree l (⟨"com/example/linearis/linearis/search/ConfigurationSetKeyOfPinLaw", "unmix", "(J)J"⟩ : MethodName) (head1 (Jvm.Cond.code (⟨"com/example/linearis/linearis/search/ConfigurationSetKeyOfPinLaw", "unmix", "(J)J"⟩ : MethodName) method_2_code 12 (some .long) :: ws) ({ frames := 0, cells := 0, slots := 0, locals := 0 } : Room)) (fun a U => a = #[(.long p1)] ∧ Z.Warmed39 U.vm ∧ U.heap = h0) (fun _ _ _ _ _ => True) (fun _ U o U' => ∃ v L, o = .returned v ∧ Q2 Z p1 h0 n0 v U'.heap L ∧ FrameEnd U o U' L ({ frames := 0, cells := 0, slots := 0, locals := 0 } : Room).cells ({ frames := 0, cells := 0, slots := 0, locals := 0 } : Room).slots) := by
  refine MetFree.of_bodySF (plainFor_of_name pn_ConfigurationSetKeyOfPinLaw) hisR ?_
  intro p e s m args below meth c s₁ Bd hml0 hP hK
  obtain ⟨rfl, hZ, hh⟩ := hP
  have hx := Bd.exec
  have hby := Bd.bytes
  have hml : c.maxLocals = 12 := hml0
  have hown : s.vm.findClass "com/example/linearis/linearis/search/ConfigurationSetKeyOfPinLaw" = some m.cls := findClass_of_methodNamed Bd.named
  have hnm := (name_of_methodNamed Bd.named Bd.method).1
  have X0 : Stand p l e ({ frames := 0, cells := 0, slots := 0, locals := 0 } : Room) s m #[(.long p1)] below meth c s₁ [] 0 0 := Stand.of_body Bd
  have e0 : s₁.heap = h0 := by rw [← hh, Bd.state]; rfl
  have N0 := Fr.nil n0
  refine Gd.out (Gd.st (fun t k => castTop (ef_2 m p1) k) ?_)
  show Gd p.tables e below _ (s₁.setTop (mkF m 0 #[.val (.long p1), .second, .unset, .unset, .unset, .unset, .unset, .unset, .unset, .unset, .unset, .unset] []))
  refine Gd.st (fun _ k => XS.lloadN X0.here hx rfl (hb hby d2_0) rfl k) ?_
  show Gd p.tables e below _ (s₁.setTop (mkF m 1 #[.val (.long p1), .second, .unset, .unset, .unset, .unset, .unset, .unset, .unset, .unset, .unset, .unset] [(.long p1)]))
  refine Gd.st (fun _ k => XS.lloadN X0.here hx rfl (hb hby d2_1) rfl k) ?_
  show Gd p.tables e below _ (s₁.setTop (mkF m 2 #[.val (.long p1), .second, .unset, .unset, .unset, .unset, .unset, .unset, .unset, .unset, .unset, .unset] [(.long p1), (.long p1)]))
  refine Gd.st (fun _ k => XS.bipush X0.here hx rfl (hb hby d2_2) k) ?_
  show Gd p.tables e below _ (s₁.setTop (mkF m 4 #[.val (.long p1), .second, .unset, .unset, .unset, .unset, .unset, .unset, .unset, .unset, .unset, .unset] [(.int (31 : Int32)), (.long p1), (.long p1)]))
  refine Gd.st (fun _ k => XS.lushr X0.here hx rfl (hb hby d2_4) rfl k) ?_
  show Gd p.tables e below _ (s₁.setTop (mkF m 5 #[.val (.long p1), .second, .unset, .unset, .unset, .unset, .unset, .unset, .unset, .unset, .unset, .unset] [(.long ((p1.toUInt64 >>> ((31 : Int32) &&& 0x3f).toInt64.toUInt64).toInt64)), (.long p1)]))
  refine Gd.st (fun _ k => XS.lxor X0.here hx rfl (hb hby d2_5) rfl k) ?_
  show Gd p.tables e below _ (s₁.setTop (mkF m 6 #[.val (.long p1), .second, .unset, .unset, .unset, .unset, .unset, .unset, .unset, .unset, .unset, .unset] [(.long (p1 ^^^ ((p1.toUInt64 >>> ((31 : Int32) &&& 0x3f).toInt64.toUInt64).toInt64)))]))
  refine Gd.st (fun _ k => XS.lloadN X0.here hx rfl (hb hby d2_6) rfl k) ?_
  show Gd p.tables e below _ (s₁.setTop (mkF m 7 #[.val (.long p1), .second, .unset, .unset, .unset, .unset, .unset, .unset, .unset, .unset, .unset, .unset] [(.long p1), (.long (p1 ^^^ ((p1.toUInt64 >>> ((31 : Int32) &&& 0x3f).toInt64.toUInt64).toInt64)))]))
  refine Gd.st (fun _ k => XS.bipush X0.here hx rfl (hb hby d2_7) k) ?_
  show Gd p.tables e below _ (s₁.setTop (mkF m 9 #[.val (.long p1), .second, .unset, .unset, .unset, .unset, .unset, .unset, .unset, .unset, .unset, .unset] [(.int (62 : Int32)), (.long p1), (.long (p1 ^^^ ((p1.toUInt64 >>> ((31 : Int32) &&& 0x3f).toInt64.toUInt64).toInt64)))]))
  refine Gd.st (fun _ k => XS.lushr X0.here hx rfl (hb hby d2_9) rfl k) ?_
  show Gd p.tables e below _ (s₁.setTop (mkF m 10 #[.val (.long p1), .second, .unset, .unset, .unset, .unset, .unset, .unset, .unset, .unset, .unset, .unset] [(.long ((p1.toUInt64 >>> ((62 : Int32) &&& 0x3f).toInt64.toUInt64).toInt64)), (.long (p1 ^^^ ((p1.toUInt64 >>> ((31 : Int32) &&& 0x3f).toInt64.toUInt64).toInt64)))]))
  refine Gd.st (fun _ k => XS.lxor X0.here hx rfl (hb hby d2_10) rfl k) ?_
  show Gd p.tables e below _ (s₁.setTop (mkF m 11 #[.val (.long p1), .second, .unset, .unset, .unset, .unset, .unset, .unset, .unset, .unset, .unset, .unset] [(.long (own_ux p1 (31 : Int32) (62 : Int32)))]))
  refine Gd.st (fun _ k => XS.lstoreN X0.here hx rfl (hb hby d2_11) rfl (l' := #[.val (.long p1), .second, .val (.long (own_ux p1 (31 : Int32) (62 : Int32))), .second, .unset, .unset, .unset, .unset, .unset, .unset, .unset, .unset]) rfl k) ?_
  show Gd p.tables e below _ (s₁.setTop (mkF m 12 #[.val (.long p1), .second, .val (.long (own_ux p1 (31 : Int32) (62 : Int32))), .second, .unset, .unset, .unset, .unset, .unset, .unset, .unset, .unset] []))
  refine Gd.st (fun _ k => XS.lloadN X0.here hx rfl (hb hby d2_12) rfl k) ?_
  show Gd p.tables e below _ (s₁.setTop (mkF m 13 #[.val (.long p1), .second, .val (.long (own_ux p1 (31 : Int32) (62 : Int32))), .second, .unset, .unset, .unset, .unset, .unset, .unset, .unset, .unset] [(.long (own_ux p1 (31 : Int32) (62 : Int32)))]))
  refine Gd.st (fun _ k => X0.ldc2Long hx hown (mvT hZ (hw _ (List.mem_of_getElem? (i := 11) rfl))) (g := (mkF m 13 #[.val (.long p1), .second, .val (.long (own_ux p1 (31 : Int32) (62 : Int32))), .second, .unset, .unset, .unset, .unset, .unset, .unset, .unset, .unset] [(.long (own_ux p1 (31 : Int32) (62 : Int32)))])) rfl (hb hby d2_13) _ k) ?_
  show Gd p.tables e below _ (s₁.setTop (mkF m 16 #[.val (.long p1), .second, .val (.long (own_ux p1 (31 : Int32) (62 : Int32))), .second, .unset, .unset, .unset, .unset, .unset, .unset, .unset, .unset] [(.long (3573116690164977347 : Int64)), (.long (own_ux p1 (31 : Int32) (62 : Int32)))]))
  refine Gd.st (fun _ k => XS.lmul X0.here hx rfl (hb hby d2_16) rfl k) ?_
  show Gd p.tables e below _ (s₁.setTop (mkF m 17 #[.val (.long p1), .second, .val (.long (own_ux p1 (31 : Int32) (62 : Int32))), .second, .unset, .unset, .unset, .unset, .unset, .unset, .unset, .unset] [(.long (own_u1 p1))]))
  refine Gd.st (fun _ k => XS.lstore X0.here hx rfl (hb hby d2_17) rfl (l' := #[.val (.long p1), .second, .val (.long (own_ux p1 (31 : Int32) (62 : Int32))), .second, .val (.long (own_u1 p1)), .second, .unset, .unset, .unset, .unset, .unset, .unset]) rfl k) ?_
  show Gd p.tables e below _ (s₁.setTop (mkF m 19 #[.val (.long p1), .second, .val (.long (own_ux p1 (31 : Int32) (62 : Int32))), .second, .val (.long (own_u1 p1)), .second, .unset, .unset, .unset, .unset, .unset, .unset] []))
  refine Gd.st (fun _ k => XS.lload X0.here hx rfl (hb hby d2_19) rfl k) ?_
  show Gd p.tables e below _ (s₁.setTop (mkF m 21 #[.val (.long p1), .second, .val (.long (own_ux p1 (31 : Int32) (62 : Int32))), .second, .val (.long (own_u1 p1)), .second, .unset, .unset, .unset, .unset, .unset, .unset] [(.long (own_u1 p1))]))
  refine Gd.st (fun _ k => XS.lload X0.here hx rfl (hb hby d2_21) rfl k) ?_
  show Gd p.tables e below _ (s₁.setTop (mkF m 23 #[.val (.long p1), .second, .val (.long (own_ux p1 (31 : Int32) (62 : Int32))), .second, .val (.long (own_u1 p1)), .second, .unset, .unset, .unset, .unset, .unset, .unset] [(.long (own_u1 p1)), (.long (own_u1 p1))]))
  refine Gd.st (fun _ k => XS.bipush X0.here hx rfl (hb hby d2_23) k) ?_
  show Gd p.tables e below _ (s₁.setTop (mkF m 25 #[.val (.long p1), .second, .val (.long (own_ux p1 (31 : Int32) (62 : Int32))), .second, .val (.long (own_u1 p1)), .second, .unset, .unset, .unset, .unset, .unset, .unset] [(.int (27 : Int32)), (.long (own_u1 p1)), (.long (own_u1 p1))]))
  refine Gd.st (fun _ k => XS.lushr X0.here hx rfl (hb hby d2_25) rfl k) ?_
  show Gd p.tables e below _ (s₁.setTop (mkF m 26 #[.val (.long p1), .second, .val (.long (own_ux p1 (31 : Int32) (62 : Int32))), .second, .val (.long (own_u1 p1)), .second, .unset, .unset, .unset, .unset, .unset, .unset] [(.long (((own_u1 p1).toUInt64 >>> ((27 : Int32) &&& 0x3f).toInt64.toUInt64).toInt64)), (.long (own_u1 p1))]))
  refine Gd.st (fun _ k => XS.lxor X0.here hx rfl (hb hby d2_26) rfl k) ?_
  show Gd p.tables e below _ (s₁.setTop (mkF m 27 #[.val (.long p1), .second, .val (.long (own_ux p1 (31 : Int32) (62 : Int32))), .second, .val (.long (own_u1 p1)), .second, .unset, .unset, .unset, .unset, .unset, .unset] [(.long ((own_u1 p1) ^^^ (((own_u1 p1).toUInt64 >>> ((27 : Int32) &&& 0x3f).toInt64.toUInt64).toInt64)))]))
  refine Gd.st (fun _ k => XS.lload X0.here hx rfl (hb hby d2_27) rfl k) ?_
  show Gd p.tables e below _ (s₁.setTop (mkF m 29 #[.val (.long p1), .second, .val (.long (own_ux p1 (31 : Int32) (62 : Int32))), .second, .val (.long (own_u1 p1)), .second, .unset, .unset, .unset, .unset, .unset, .unset] [(.long (own_u1 p1)), (.long ((own_u1 p1) ^^^ (((own_u1 p1).toUInt64 >>> ((27 : Int32) &&& 0x3f).toInt64.toUInt64).toInt64)))]))
  refine Gd.st (fun _ k => XS.bipush X0.here hx rfl (hb hby d2_29) k) ?_
  show Gd p.tables e below _ (s₁.setTop (mkF m 31 #[.val (.long p1), .second, .val (.long (own_ux p1 (31 : Int32) (62 : Int32))), .second, .val (.long (own_u1 p1)), .second, .unset, .unset, .unset, .unset, .unset, .unset] [(.int (54 : Int32)), (.long (own_u1 p1)), (.long ((own_u1 p1) ^^^ (((own_u1 p1).toUInt64 >>> ((27 : Int32) &&& 0x3f).toInt64.toUInt64).toInt64)))]))
  refine Gd.st (fun _ k => XS.lushr X0.here hx rfl (hb hby d2_31) rfl k) ?_
  show Gd p.tables e below _ (s₁.setTop (mkF m 32 #[.val (.long p1), .second, .val (.long (own_ux p1 (31 : Int32) (62 : Int32))), .second, .val (.long (own_u1 p1)), .second, .unset, .unset, .unset, .unset, .unset, .unset] [(.long (((own_u1 p1).toUInt64 >>> ((54 : Int32) &&& 0x3f).toInt64.toUInt64).toInt64)), (.long ((own_u1 p1) ^^^ (((own_u1 p1).toUInt64 >>> ((27 : Int32) &&& 0x3f).toInt64.toUInt64).toInt64)))]))
  refine Gd.st (fun _ k => XS.lxor X0.here hx rfl (hb hby d2_32) rfl k) ?_
  show Gd p.tables e below _ (s₁.setTop (mkF m 33 #[.val (.long p1), .second, .val (.long (own_ux p1 (31 : Int32) (62 : Int32))), .second, .val (.long (own_u1 p1)), .second, .unset, .unset, .unset, .unset, .unset, .unset] [(.long (own_ux (own_u1 p1) (27 : Int32) (54 : Int32)))]))
  refine Gd.st (fun _ k => XS.lstore X0.here hx rfl (hb hby d2_33) rfl (l' := #[.val (.long p1), .second, .val (.long (own_ux p1 (31 : Int32) (62 : Int32))), .second, .val (.long (own_u1 p1)), .second, .val (.long (own_ux (own_u1 p1) (27 : Int32) (54 : Int32))), .second, .unset, .unset, .unset, .unset]) rfl k) ?_
  show Gd p.tables e below _ (s₁.setTop (mkF m 35 #[.val (.long p1), .second, .val (.long (own_ux p1 (31 : Int32) (62 : Int32))), .second, .val (.long (own_u1 p1)), .second, .val (.long (own_ux (own_u1 p1) (27 : Int32) (54 : Int32))), .second, .unset, .unset, .unset, .unset] []))
  refine Gd.st (fun _ k => XS.lload X0.here hx rfl (hb hby d2_35) rfl k) ?_
  show Gd p.tables e below _ (s₁.setTop (mkF m 37 #[.val (.long p1), .second, .val (.long (own_ux p1 (31 : Int32) (62 : Int32))), .second, .val (.long (own_u1 p1)), .second, .val (.long (own_ux (own_u1 p1) (27 : Int32) (54 : Int32))), .second, .unset, .unset, .unset, .unset] [(.long (own_ux (own_u1 p1) (27 : Int32) (54 : Int32)))]))
  refine Gd.st (fun _ k => X0.ldc2Long hx hown (mvT hZ (hw _ (List.mem_of_getElem? (i := 12) rfl))) (g := (mkF m 37 #[.val (.long p1), .second, .val (.long (own_ux p1 (31 : Int32) (62 : Int32))), .second, .val (.long (own_u1 p1)), .second, .val (.long (own_ux (own_u1 p1) (27 : Int32) (54 : Int32))), .second, .unset, .unset, .unset, .unset] [(.long (own_ux (own_u1 p1) (27 : Int32) (54 : Int32)))])) rfl (hb hby d2_37) _ k) ?_
  show Gd p.tables e below _ (s₁.setTop (mkF m 40 #[.val (.long p1), .second, .val (.long (own_ux p1 (31 : Int32) (62 : Int32))), .second, .val (.long (own_u1 p1)), .second, .val (.long (own_ux (own_u1 p1) (27 : Int32) (54 : Int32))), .second, .unset, .unset, .unset, .unset] [(.long (-7575587736534282103 : Int64)), (.long (own_ux (own_u1 p1) (27 : Int32) (54 : Int32)))]))
  refine Gd.st (fun _ k => XS.lmul X0.here hx rfl (hb hby d2_40) rfl k) ?_
  show Gd p.tables e below _ (s₁.setTop (mkF m 41 #[.val (.long p1), .second, .val (.long (own_ux p1 (31 : Int32) (62 : Int32))), .second, .val (.long (own_u1 p1)), .second, .val (.long (own_ux (own_u1 p1) (27 : Int32) (54 : Int32))), .second, .unset, .unset, .unset, .unset] [(.long (own_u2 (own_u1 p1)))]))
  refine Gd.st (fun _ k => XS.lstore X0.here hx rfl (hb hby d2_41) rfl (l' := #[.val (.long p1), .second, .val (.long (own_ux p1 (31 : Int32) (62 : Int32))), .second, .val (.long (own_u1 p1)), .second, .val (.long (own_ux (own_u1 p1) (27 : Int32) (54 : Int32))), .second, .val (.long (own_u2 (own_u1 p1))), .second, .unset, .unset]) rfl k) ?_
  show Gd p.tables e below _ (s₁.setTop (mkF m 43 #[.val (.long p1), .second, .val (.long (own_ux p1 (31 : Int32) (62 : Int32))), .second, .val (.long (own_u1 p1)), .second, .val (.long (own_ux (own_u1 p1) (27 : Int32) (54 : Int32))), .second, .val (.long (own_u2 (own_u1 p1))), .second, .unset, .unset] []))
  refine Gd.st (fun _ k => XS.lload X0.here hx rfl (hb hby d2_43) rfl k) ?_
  show Gd p.tables e below _ (s₁.setTop (mkF m 45 #[.val (.long p1), .second, .val (.long (own_ux p1 (31 : Int32) (62 : Int32))), .second, .val (.long (own_u1 p1)), .second, .val (.long (own_ux (own_u1 p1) (27 : Int32) (54 : Int32))), .second, .val (.long (own_u2 (own_u1 p1))), .second, .unset, .unset] [(.long (own_u2 (own_u1 p1)))]))
  refine Gd.st (fun _ k => XS.lload X0.here hx rfl (hb hby d2_45) rfl k) ?_
  show Gd p.tables e below _ (s₁.setTop (mkF m 47 #[.val (.long p1), .second, .val (.long (own_ux p1 (31 : Int32) (62 : Int32))), .second, .val (.long (own_u1 p1)), .second, .val (.long (own_ux (own_u1 p1) (27 : Int32) (54 : Int32))), .second, .val (.long (own_u2 (own_u1 p1))), .second, .unset, .unset] [(.long (own_u2 (own_u1 p1))), (.long (own_u2 (own_u1 p1)))]))
  refine Gd.st (fun _ k => XS.bipush X0.here hx rfl (hb hby d2_47) k) ?_
  show Gd p.tables e below _ (s₁.setTop (mkF m 49 #[.val (.long p1), .second, .val (.long (own_ux p1 (31 : Int32) (62 : Int32))), .second, .val (.long (own_u1 p1)), .second, .val (.long (own_ux (own_u1 p1) (27 : Int32) (54 : Int32))), .second, .val (.long (own_u2 (own_u1 p1))), .second, .unset, .unset] [(.int (30 : Int32)), (.long (own_u2 (own_u1 p1))), (.long (own_u2 (own_u1 p1)))]))
  refine Gd.st (fun _ k => XS.lushr X0.here hx rfl (hb hby d2_49) rfl k) ?_
  show Gd p.tables e below _ (s₁.setTop (mkF m 50 #[.val (.long p1), .second, .val (.long (own_ux p1 (31 : Int32) (62 : Int32))), .second, .val (.long (own_u1 p1)), .second, .val (.long (own_ux (own_u1 p1) (27 : Int32) (54 : Int32))), .second, .val (.long (own_u2 (own_u1 p1))), .second, .unset, .unset] [(.long (((own_u2 (own_u1 p1)).toUInt64 >>> ((30 : Int32) &&& 0x3f).toInt64.toUInt64).toInt64)), (.long (own_u2 (own_u1 p1)))]))
  refine Gd.st (fun _ k => XS.lxor X0.here hx rfl (hb hby d2_50) rfl k) ?_
  show Gd p.tables e below _ (s₁.setTop (mkF m 51 #[.val (.long p1), .second, .val (.long (own_ux p1 (31 : Int32) (62 : Int32))), .second, .val (.long (own_u1 p1)), .second, .val (.long (own_ux (own_u1 p1) (27 : Int32) (54 : Int32))), .second, .val (.long (own_u2 (own_u1 p1))), .second, .unset, .unset] [(.long ((own_u2 (own_u1 p1)) ^^^ (((own_u2 (own_u1 p1)).toUInt64 >>> ((30 : Int32) &&& 0x3f).toInt64.toUInt64).toInt64)))]))
  refine Gd.st (fun _ k => XS.lload X0.here hx rfl (hb hby d2_51) rfl k) ?_
  show Gd p.tables e below _ (s₁.setTop (mkF m 53 #[.val (.long p1), .second, .val (.long (own_ux p1 (31 : Int32) (62 : Int32))), .second, .val (.long (own_u1 p1)), .second, .val (.long (own_ux (own_u1 p1) (27 : Int32) (54 : Int32))), .second, .val (.long (own_u2 (own_u1 p1))), .second, .unset, .unset] [(.long (own_u2 (own_u1 p1))), (.long ((own_u2 (own_u1 p1)) ^^^ (((own_u2 (own_u1 p1)).toUInt64 >>> ((30 : Int32) &&& 0x3f).toInt64.toUInt64).toInt64)))]))
  refine Gd.st (fun _ k => XS.bipush X0.here hx rfl (hb hby d2_53) k) ?_
  show Gd p.tables e below _ (s₁.setTop (mkF m 55 #[.val (.long p1), .second, .val (.long (own_ux p1 (31 : Int32) (62 : Int32))), .second, .val (.long (own_u1 p1)), .second, .val (.long (own_ux (own_u1 p1) (27 : Int32) (54 : Int32))), .second, .val (.long (own_u2 (own_u1 p1))), .second, .unset, .unset] [(.int (60 : Int32)), (.long (own_u2 (own_u1 p1))), (.long ((own_u2 (own_u1 p1)) ^^^ (((own_u2 (own_u1 p1)).toUInt64 >>> ((30 : Int32) &&& 0x3f).toInt64.toUInt64).toInt64)))]))
  refine Gd.st (fun _ k => XS.lushr X0.here hx rfl (hb hby d2_55) rfl k) ?_
  show Gd p.tables e below _ (s₁.setTop (mkF m 56 #[.val (.long p1), .second, .val (.long (own_ux p1 (31 : Int32) (62 : Int32))), .second, .val (.long (own_u1 p1)), .second, .val (.long (own_ux (own_u1 p1) (27 : Int32) (54 : Int32))), .second, .val (.long (own_u2 (own_u1 p1))), .second, .unset, .unset] [(.long (((own_u2 (own_u1 p1)).toUInt64 >>> ((60 : Int32) &&& 0x3f).toInt64.toUInt64).toInt64)), (.long ((own_u2 (own_u1 p1)) ^^^ (((own_u2 (own_u1 p1)).toUInt64 >>> ((30 : Int32) &&& 0x3f).toInt64.toUInt64).toInt64)))]))
  refine Gd.st (fun _ k => XS.lxor X0.here hx rfl (hb hby d2_56) rfl k) ?_
  show Gd p.tables e below _ (s₁.setTop (mkF m 57 #[.val (.long p1), .second, .val (.long (own_ux p1 (31 : Int32) (62 : Int32))), .second, .val (.long (own_u1 p1)), .second, .val (.long (own_ux (own_u1 p1) (27 : Int32) (54 : Int32))), .second, .val (.long (own_u2 (own_u1 p1))), .second, .unset, .unset] [(.long (own_ux (own_u2 (own_u1 p1)) (30 : Int32) (60 : Int32)))]))
  refine Gd.st (fun _ k => XS.lstore X0.here hx rfl (hb hby d2_57) rfl (l' := #[.val (.long p1), .second, .val (.long (own_ux p1 (31 : Int32) (62 : Int32))), .second, .val (.long (own_u1 p1)), .second, .val (.long (own_ux (own_u1 p1) (27 : Int32) (54 : Int32))), .second, .val (.long (own_u2 (own_u1 p1))), .second, .val (.long (own_ux (own_u2 (own_u1 p1)) (30 : Int32) (60 : Int32))), .second]) rfl k) ?_
  show Gd p.tables e below _ (s₁.setTop (mkF m 59 #[.val (.long p1), .second, .val (.long (own_ux p1 (31 : Int32) (62 : Int32))), .second, .val (.long (own_u1 p1)), .second, .val (.long (own_ux (own_u1 p1) (27 : Int32) (54 : Int32))), .second, .val (.long (own_u2 (own_u1 p1))), .second, .val (.long (own_ux (own_u2 (own_u1 p1)) (30 : Int32) (60 : Int32))), .second] []))
  refine Gd.st (fun _ k => XS.lload X0.here hx rfl (hb hby d2_59) rfl k) ?_
  show Gd p.tables e below _ (s₁.setTop (mkF m 61 #[.val (.long p1), .second, .val (.long (own_ux p1 (31 : Int32) (62 : Int32))), .second, .val (.long (own_u1 p1)), .second, .val (.long (own_ux (own_u1 p1) (27 : Int32) (54 : Int32))), .second, .val (.long (own_u2 (own_u1 p1))), .second, .val (.long (own_ux (own_u2 (own_u1 p1)) (30 : Int32) (60 : Int32))), .second] [(.long (own_ux (own_u2 (own_u1 p1)) (30 : Int32) (60 : Int32)))]))
  refine Gd.st (fun _ k => X0.ldc2Long hx hown (mvT hZ (hw _ (List.mem_of_getElem? (i := 13) rfl))) (g := (mkF m 61 #[.val (.long p1), .second, .val (.long (own_ux p1 (31 : Int32) (62 : Int32))), .second, .val (.long (own_u1 p1)), .second, .val (.long (own_ux (own_u1 p1) (27 : Int32) (54 : Int32))), .second, .val (.long (own_u2 (own_u1 p1))), .second, .val (.long (own_ux (own_u2 (own_u1 p1)) (30 : Int32) (60 : Int32))), .second] [(.long (own_ux (own_u2 (own_u1 p1)) (30 : Int32) (60 : Int32)))])) rfl (hb hby d2_61) _ k) ?_
  show Gd p.tables e below _ (s₁.setTop (mkF m 64 #[.val (.long p1), .second, .val (.long (own_ux p1 (31 : Int32) (62 : Int32))), .second, .val (.long (own_u1 p1)), .second, .val (.long (own_ux (own_u1 p1) (27 : Int32) (54 : Int32))), .second, .val (.long (own_u2 (own_u1 p1))), .second, .val (.long (own_ux (own_u2 (own_u1 p1)) (30 : Int32) (60 : Int32))), .second] [(.long (-1018231460777725123 : Int64)), (.long (own_ux (own_u2 (own_u1 p1)) (30 : Int32) (60 : Int32)))]))
  refine Gd.st (fun _ k => XS.lmul X0.here hx rfl (hb hby d2_64) rfl k) ?_
  show Gd p.tables e below _ (s₁.setTop (mkF m 65 #[.val (.long p1), .second, .val (.long (own_ux p1 (31 : Int32) (62 : Int32))), .second, .val (.long (own_u1 p1)), .second, .val (.long (own_ux (own_u1 p1) (27 : Int32) (54 : Int32))), .second, .val (.long (own_u2 (own_u1 p1))), .second, .val (.long (own_ux (own_u2 (own_u1 p1)) (30 : Int32) (60 : Int32))), .second] [(.long (own_unmix p1))]))
  obtain ⟨fs, hr, hrun, hended, hW, hsame⟩ := X0.leave (v := some (.long (own_unmix p1))) (fun h => by rw [Bd.returns] at h; cases h) Bd.notSynchronized
  refine Gd.mk (o := .returned (some (.long (own_unmix p1)))) (X0.lreturnOut hx Bd.returns (hb hby d2_65) hr) ⟨hrun, hended, _, _, rfl, ?_, ⟨_, rfl⟩, hW, hsame.mono (by decide) (by decide)⟩
  show Q2 Z p1 h0 n0 _ s₁.heap _
  rw [e0]
  exact ⟨rfl, N0, rfl⟩
theorem ef_0 (m : MethodId) (x0 : Int32) : entryFrame m #[(.int x0)] maxLocals = mkF m 0 #[.val (.int x0), .unset, .unset, .unset, .unset] [] := by first | (simp [entryFrame, mkF, argsToLocals, Value.category, maxLocals]; done) | rfl
theorem pd__I_J_4 : parseMethodDescriptor "(I)J" = some ⟨[.int], some .long⟩ := by decide +kernel
theorem pd__J_J_4 : parseMethodDescriptor "(J)J" = some ⟨[.long], some .long⟩ := by decide +kernel
def Q0 (Z : State) (p1 : Int32) (h0 : Heap) (n0 : Nat) (v : Option Value) (h : Heap) (L : List Loc) : Prop := v = some (.int (1 : Int32)) ∧ Fr n0 L
set_option maxRecDepth 65536 in
set_option maxHeartbeats 40000000 in
theorem rm0 (l : Launch) (Z : State) (a0 : Array Value) (hw : ∀ d ∈ tables_1, d.before a0 Z = true) (ws : List Jvm.Cond) (p1 : Int32) (h0 : Heap) (n0 : Nat) (Z0 : n0 ≤ h0.size) :
    MetFree l x (head1 (Jvm.Cond.code x code maxLocals ret :: ws) room_1) (fun a U => a = #[(.int p1)] ∧ Z.Warmed39 U.vm ∧ U.heap = h0) (fun _ _ _ _ _ => True) (fun _ U o U' => ∃ v L, o = .returned v ∧ Q0 Z p1 h0 n0 v U'.heap L ∧ FrameEnd U o U' L room_1.cells room_1.slots) := by
  refine MetFree.of_bodySF (plainFor_of_name pn_ConfigurationSetKeyOfPinLaw) hisR ?_
  intro p e s m args below meth c s₁ Bd hml0 hP hK
  obtain ⟨rfl, hZ, hh⟩ := hP
  have hx := Bd.exec
  have hby := Bd.bytes
  have hml : c.maxLocals = 5 := hml0
  have hown : s.vm.findClass "com/example/linearis/linearis/search/ConfigurationSetKeyOfPinLaw" = some m.cls := findClass_of_methodNamed Bd.named
  have hnm := (name_of_methodNamed Bd.named Bd.method).1
  have X0 : Stand p l e room_1 s m #[(.int p1)] below meth c s₁ [] 0 0 := Stand.of_body Bd
  have e0 : s₁.heap = h0 := by rw [← hh, Bd.state]; rfl
  have N0 := Fr.nil n0
  refine Gd.out (Gd.st (fun t k => castTop (ef_0 m p1) k) ?_)
  show Gd p.tables e below _ (s₁.setTop (mkF m 0 #[.val (.int p1), .unset, .unset, .unset, .unset] []))
  refine Gd.st (fun _ k => XS.iloadN X0.here hx rfl (hb hby at_0) rfl k) ?_
  show Gd p.tables e below _ (s₁.setTop (mkF m 1 #[.val (.int p1), .unset, .unset, .unset, .unset] [(.int p1)]))
  obtain ⟨_, _, ⟨T1, L1, k1, n1⟩, -, X1, ⟨Lc1, hQ1, l1, y1, z1⟩, st1⟩ := Jvm.LawKit.callS X0 hx (y := (⟨"com/example/linearis/linearis/search/ConfigurationSet", "keyOf", "(I)J"⟩ : MethodName)) hown (mvT hZ (hw _ (List.mem_of_getElem? (i := 0) rfl))) (mvT hZ (hw _ (List.mem_of_getElem? (i := 1) rfl))) (mvT hZ (hw _ (List.mem_of_getElem? (i := 2) rfl))) (mvT hZ (hw _ (List.mem_of_getElem? (i := 3) rfl))) (by decide) (backOf (W := 0) (rm1 l Z a0 hw [] p1 h0 n0 Z0 ) hZ (hw _ (List.mem_of_getElem? (i := 3) rfl)) (hw _ (List.mem_of_getElem? (i := 2) rfl)) (by decide) (by decide)) (g := (mkF m 1 #[.val (.int p1), .unset, .unset, .unset, .unset] [(.int p1)])) rfl (by rw [hml]; rfl) (argsL := [(.int p1)]) (rest := []) (lenOf pd__I_J_4 rfl) rfl (by show 2 * 0 + _ ≤ _; exact Nat.le_of_eq rfl) (hb hby at_1) (fun _ _ => ⟨rfl, e0, (by decide : 0 + 0 ≤ _), (by decide : 0 + 0 ≤ _)⟩)
  dsimp only [Pt.U, Pt.locs, Pt.cells, Pt.slots] at X1 l1 y1 z1 st1 hQ1
  simp only [Nat.add_zero, Nat.zero_add, Nat.reduceAdd] at y1 z1
  subst y1 z1
  obtain ⟨rfl, N1q, eh1⟩ := hQ1
  have N1 : Fr n0 L1 := by rw [l1]; exact Fr.app N0 N1q
  clear l1
  refine Gd.st st1 ?_
  have e1 : T1.heap = h0 := eh1
  show Gd p.tables e below _ (T1.setTop (mkF m 4 #[.val (.int p1), .unset, .unset, .unset, .unset] [(.long (own_key p1))]))
  refine Gd.st (fun _ k => XS.lstoreN X1.here hx rfl (hb hby at_4) rfl (l' := #[.val (.int p1), .val (.long (own_key p1)), .second, .unset, .unset]) rfl k) ?_
  show Gd p.tables e below _ (T1.setTop (mkF m 5 #[.val (.int p1), .val (.long (own_key p1)), .second, .unset, .unset] []))
  refine Gd.st (fun _ k => XS.iloadN X1.here hx rfl (hb hby at_5) rfl k) ?_
  show Gd p.tables e below _ (T1.setTop (mkF m 6 #[.val (.int p1), .val (.long (own_key p1)), .second, .unset, .unset] [(.int p1)]))
  refine Gd.st (fun _ k => XS.iconst X1.here hx rfl (hb hby at_6) k) ?_
  show Gd p.tables e below _ (T1.setTop (mkF m 7 #[.val (.int p1), .val (.long (own_key p1)), .second, .unset, .unset] [(.int (1 : Int32)), (.int p1)]))
  refine Gd.st (fun _ k => XS.iadd X1.here hx rfl (hb hby at_7) rfl k) ?_
  show Gd p.tables e below _ (T1.setTop (mkF m 8 #[.val (.int p1), .val (.long (own_key p1)), .second, .unset, .unset] [(.int (p1 + (1 : Int32)))]))
  refine Gd.st (fun _ k => XS.i2l X1.here hx rfl (hb hby at_8) rfl k) ?_
  show Gd p.tables e below _ (T1.setTop (mkF m 9 #[.val (.int p1), .val (.long (own_key p1)), .second, .unset, .unset] [(.long ((p1 + (1 : Int32)).toInt64))]))
  refine Gd.st (fun _ k => XS.lstoreN X1.here hx rfl (hb hby at_9) rfl (l' := #[.val (.int p1), .val (.long (own_key p1)), .second, .val (.long ((p1 + (1 : Int32)).toInt64)), .second]) rfl k) ?_
  show Gd p.tables e below _ (T1.setTop (mkF m 10 #[.val (.int p1), .val (.long (own_key p1)), .second, .val (.long ((p1 + (1 : Int32)).toInt64)), .second] []))
  refine Gd.st (fun _ k => XS.lloadN X1.here hx rfl (hb hby at_10) rfl k) ?_
  show Gd p.tables e below _ (T1.setTop (mkF m 11 #[.val (.int p1), .val (.long (own_key p1)), .second, .val (.long ((p1 + (1 : Int32)).toInt64)), .second] [(.long (own_key p1))]))
  obtain ⟨_, _, ⟨T2, L2, k2, n2⟩, -, X2, ⟨Lc2, hQ2, l2, y2, z2⟩, st2⟩ := Jvm.LawKit.callS X1 hx (y := (⟨"com/example/linearis/linearis/search/ConfigurationSetKeyOfPinLaw", "unmix", "(J)J"⟩ : MethodName)) hown (mvT hZ (hw _ (List.mem_of_getElem? (i := 7) rfl))) (mvT hZ (hw _ (List.mem_of_getElem? (i := 8) rfl))) (mvT hZ (hw _ (List.mem_of_getElem? (i := 9) rfl))) (mvT hZ (hw _ (List.mem_of_getElem? (i := 10) rfl))) (by decide) (backOf (W := 0) (rm2 l Z a0 hw [] (own_key p1) h0 n0 Z0 ) hZ (hw _ (List.mem_of_getElem? (i := 10) rfl)) (hw _ (List.mem_of_getElem? (i := 9) rfl)) (by decide) (by decide)) (g := (mkF m 11 #[.val (.int p1), .val (.long (own_key p1)), .second, .val (.long ((p1 + (1 : Int32)).toInt64)), .second] [(.long (own_key p1))])) rfl (by rw [hml]; rfl) (argsL := [(.long (own_key p1))]) (rest := []) (lenOf pd__J_J_4 rfl) rfl (by show 2 * 0 + _ ≤ _; exact Nat.le_of_eq rfl) (hb hby at_11) (fun _ _ => ⟨rfl, e1, (by decide : 0 + 0 ≤ _), (by decide : 0 + 0 ≤ _)⟩)
  dsimp only [Pt.U, Pt.locs, Pt.cells, Pt.slots] at X2 l2 y2 z2 st2 hQ2
  simp only [Nat.add_zero, Nat.zero_add, Nat.reduceAdd] at y2 z2
  subst y2 z2
  obtain ⟨rfl, N2q, eh2⟩ := hQ2
  have N2 : Fr n0 L2 := by rw [l2]; exact Fr.app N1 N2q
  clear l2
  refine Gd.st st2 ?_
  have e2 : T2.heap = h0 := eh2
  show Gd p.tables e below _ (T2.setTop (mkF m 14 #[.val (.int p1), .val (.long (own_key p1)), .second, .val (.long ((p1 + (1 : Int32)).toInt64)), .second] [(.long (own_unmix (own_key p1)))]))
  refine Gd.st (fun _ k => XS.lloadN X2.here hx rfl (hb hby at_14) rfl k) ?_
  show Gd p.tables e below _ (T2.setTop (mkF m 15 #[.val (.int p1), .val (.long (own_key p1)), .second, .val (.long ((p1 + (1 : Int32)).toInt64)), .second] [(.long ((p1 + (1 : Int32)).toInt64)), (.long (own_unmix (own_key p1)))]))
  refine Gd.st (fun _ k => XS.lcmp X2.here hx rfl (hb hby at_15) rfl k) ?_
  show Gd p.tables e below _ (T2.setTop (mkF m 16 #[.val (.int p1), .val (.long (own_key p1)), .second, .val (.long ((p1 + (1 : Int32)).toInt64)), .second] [(.int (lcmpW (own_unmix (own_key p1)) ((p1 + (1 : Int32)).toInt64)))]))
  refine Gd.st (fun _ k => XS.ifNo X2.here hx rfl (hb hby at_16) rfl ((if0 _ _).trans (teq ((lw_eq (own_unmix (own_key p1)) ((p1 + (1 : Int32)).toInt64)).mpr (own_law p1))).2) k) ?_
  show Gd p.tables e below _ (T2.setTop (mkF m 19 #[.val (.int p1), .val (.long (own_key p1)), .second, .val (.long ((p1 + (1 : Int32)).toInt64)), .second] []))
  refine Gd.st (fun _ k => XS.iconst X2.here hx rfl (hb hby at_19) k) ?_
  show Gd p.tables e below _ (T2.setTop (mkF m 20 #[.val (.int p1), .val (.long (own_key p1)), .second, .val (.long ((p1 + (1 : Int32)).toInt64)), .second] [(.int (1 : Int32))]))
  refine Gd.st (fun _ k => XS.goto X2.here hx rfl (pc0 := 20) (pc' := 24) rfl (hb hby at_20) (by decide) (by decide) k) ?_
  show Gd p.tables e below _ (T2.setTop (mkF m 24 #[.val (.int p1), .val (.long (own_key p1)), .second, .val (.long ((p1 + (1 : Int32)).toInt64)), .second] [(.int (1 : Int32))]))
  obtain ⟨fs, hr, hrun, hended, hW, hsame⟩ := X2.leave (v := some (.int (1 : Int32))) (fun h => by rw [Bd.returns] at h; cases h) Bd.notSynchronized
  refine Gd.mk (o := .returned (some (.int (1 : Int32)))) (retN X2 hx (t := .boolean) Bd.returns (by simp) (hb hby at_24) hr) ⟨hrun, hended, _, _, rfl, ?_, ⟨_, rfl⟩, hW, hsame.mono (by decide) (by decide)⟩
  show Q0 Z p1 h0 n0 _ T2.heap _
  rw [e2]
  exact ⟨rfl, N2⟩
set_option maxRecDepth 65536 in
set_option maxHeartbeats 40000000 in
theorem comes_1 {Post : Tables → Env → Array Value → State → Outcome → State → Prop} (hpost : ∀ tb e args s v u, (limb_1_1.after args s (.returned v) u = true ∧ limb_1_2.after args s (.returned v) u = true ∧ True) → FrameEnd s (.returned v) u (Jvm.fieldLocs frame_1_writes args s ++ Jvm.arrayLocs frame_1_arrays args s ++ Jvm.staticLocs frame_1_statics s) 0 0 → Post tb e args s (.returned v) u) :
    ArmFor flags0 classFile x code maxLocals ret World_1 tables_1 room_1 Calls_1 rest_1 Pre_1 Post := by
  intro l hfl _ _ p e ha hc hk s m args below hf hA hF happ hP
  obtain ⟨hcalls, hrest, hpre⟩ := hP
  obtain ⟨-, -, -, hnamed, -, -, -, hat⟩ := (Spec.applies_iff hf).mp happ
  obtain ⟨hg, hn⟩ := and_e (Cond.before_iff.mp (show (Jvm.Cond.and given_1 narrow_1).before args s = true from hpre))
  obtain ⟨g1, g2⟩ := and_e hg
  obtain ⟨w0, rfl⟩ : ∃ w0 : Value, args = #[w0] := by
    have hs : args.size = 1 := by simpa [Cond.value, given_1] using g1
    obtain ⟨L⟩ := args
    match L, hs with
    | [w0], _ => exact ⟨w0, rfl⟩
  have hw := fun d (hd : d ∈ tables_1) => atoms_spec (ws := Jvm.Cond.code x code maxLocals ret :: tables_1) hat d (List.mem_cons_of_mem _ hd)
  obtain ⟨i0, ei0⟩ := is_v g2
  obtain rfl : w0 = (.int i0) := Option.some.inj ei0
  obtain ⟨n, o, h1, h2, h3, _, L, rfl, ⟨rfl, N⟩, hq⟩ := rm0 l s _ hw tables_1 i0 s.heap s.heap.size (Nat.le_refl _) p e ha hc hk s m _ below hf ((Spec.applies_iff_loose hf).mp happ).1 ⟨rfl, State.Warmed39.refl s, rfl⟩ trivial
  refine ⟨n, _, h1, h2, h3, hpost _ _ _ _ _ _ ⟨Cond.after_iff.mpr rfl, Cond.after_iff.mpr (eq_i res_at (Term.int_eval (1)) rfl), trivial⟩ ⟨hq.1, hq.2.1, (hq.2.2.sift fun y hy => Or.inr (N y hy)).mono (by decide) (by decide)⟩⟩
theorem main_1_1 : Claimed_1_1 := comes_1 fun _ _ _ _ _ _ h hF => ⟨h.1, hF⟩
theorem main_1_2 : Claimed_1_2 := comes_1 fun _ _ _ _ _ _ h hF => ⟨h.2.1, hF⟩
end Jvm.Pilot.@@N@@
namespace Jvm.Pilot.@@N@@
open Jvm Jvm.ClassFile Sem Op Lib Jvm.Free Jvm.Stand Jvm.Pilot.@@N@@.Jvm.D
/-! MADE BY PROGRAM (witnessworld.py) out of the Statement's table words and the real class files: 9 classes; the members and pool entries that the words name. The judged class is class 1, her method 2. -/
namespace start1
open Jvm.ClassFile
def u (s : String) : CpInfo := .utf8 (stringToUtf16 s)
/-- a pool by its gaps: so many unusable entries, then the entry; so many at the end -/
def gap : Nat → List CpInfo → List CpInfo
  | 0, r => r
  | n + 1, r => .unusable :: gap n r
def poolList (es : List (Nat × CpInfo)) (last : Nat) : List CpInfo := es.foldr (fun e r => gap e.1 (e.2 :: r)) (gap last [])
def pool (es : List (Nat × CpInfo)) (last : Nat) : Array CpInfo := ⟨poolList es last⟩
def fileOf (pool : Array CpInfo) (this : Nat) (attrs : Array Attribute := #[]) (ms : Array MethodInfo := #[]) (fl : Nat := 33) (sup : Nat := 0) (ifs : Array Nat := #[]) (fds : Array FieldInfo := #[]) : ClassFile where
  minorVersion := 0
  majorVersion := 65
  constantPool := pool
  accessFlags := fl
  thisClass := this
  superClass := sup
  interfaces := ifs
  fields := fds
  methods := ms
  attributes := attrs
def plain (name : String) (sup : Option ClassId) : Class where
  name := name
  kind := .ordinary
  loader := none
  accessFlags := 33
  super := sup
  interfaces := #[]
  cf := none
  fields := #[]
  methods := #[]
  instanceTypes := #[]
  staticTypes := #[]
  resolved := #[]
  callSites := []
  init := .initialized
  statics := none
  mirror := none

def pool0 : Array CpInfo := pool [(5, u "<init>"), (0, u "()V"), (1, .class_ 10), (1, u "java/lang/Object")] 113

def k0m0 : Method := { name := "<init>", desc := "()V", sig := { parameters := [], returnType := none }, accessFlags := 1, code := none }
/-- java/lang/Object -/
def k0 : Class := { plain "java/lang/Object" none with
  accessFlags := 33
  interfaces := #[]
  cf := some (fileOf pool0 8 #[] #[{ accessFlags := 1, nameIndex := 5, descriptorIndex := 6, attributes := #[] }] 33 0 #[] #[])
  fields := #[]
  methods := #[k0m0]
  instanceTypes := #[]
  staticTypes := #[]
  resolved := Array.replicate 124 none
  statics := none }

def pool1 : Array CpInfo := pool [(2, .class_ 4), (1, u "java/lang/Object"), (0, u "<init>"), (0, u "()V"), (0, .long 3573116690164977347), (1, .long 10871156337175269513), (1, .long 17428512612931826493), (1, .methodref 14 15), (0, .class_ 16), (0, .nameAndType 17 18), (0, u "com/example/linearis/linearis/search/ConfigurationSet"), (0, u "keyOf"), (0, u "(I)J"), (0, .methodref 20 21), (0, .class_ 22), (0, .nameAndType 23 24), (0, u "com/example/linearis/linearis/search/ConfigurationSetKeyOfPinLaw"), (0, u "unmix"), (0, u "(J)J"), (2, u "law"), (0, u "(I)Z")] 3

def k1m0 : Method := { name := "<init>", desc := "()V", sig := { parameters := [], returnType := none }, accessFlags := 2, code := none }
def k1c1 : Code := { maxStack := 5, maxLocals := 12, code := method_2_code, exceptionTable := #[], attributes := #[] }
def k1m1 : Method := { name := "unmix", desc := "(J)J", sig := { parameters := [.long], returnType := some .long }, accessFlags := 10, code := some k1c1 }
def k1c2 : Code := { maxStack := 4, maxLocals := 5, code := code, exceptionTable := #[], attributes := #[] }
def k1m2 : Method := { name := "law", desc := "(I)Z", sig := { parameters := [.int], returnType := some .boolean }, accessFlags := 9, code := some k1c2 }
/-- com/example/linearis/linearis/search/ConfigurationSetKeyOfPinLaw -/
def k1 : Class := { plain "com/example/linearis/linearis/search/ConfigurationSetKeyOfPinLaw" (some 0) with
  accessFlags := 49
  interfaces := #[]
  cf := some (fileOf pool1 20 #[] #[{ accessFlags := 2, nameIndex := 5, descriptorIndex := 6, attributes := #[] }, { accessFlags := 10, nameIndex := 23, descriptorIndex := 24, attributes := #[] }, { accessFlags := 9, nameIndex := 27, descriptorIndex := 28, attributes := #[] }] 49 2 #[] #[])
  fields := #[]
  methods := #[k1m0, k1m1, k1m2]
  instanceTypes := #[]
  staticTypes := #[]
  resolved := Array.replicate 32 none
  statics := none }

def pool2 : Array CpInfo := pool [(2, .class_ 4), (1, u "java/lang/Object"), (5, .class_ 12), (1, u "com/example/linearis/linearis/search/ConfigurationSet"), (0, u "words"), (0, u "I"), (2, u "placed"), (0, u "[J"), (2, u "states"), (0, u "[Ljava/lang/Object;"), (2, u "hashes"), (2, u "slots"), (0, u "[I"), (0, .long 11400714819323198485), (1, .long 13787848793156543929), (1, .long 10723151780598845931), (15, u "size"), (32, u "FIRST_CAPACITY"), (2, u "MAX_SIZE"), (3, u "keyOf"), (0, u "(I)J")] 5

def k2c0 : Code := { maxStack := 5, maxLocals := 3, code := prog_73_method_2_code, exceptionTable := #[], attributes := #[] }
def k2m0 : Method := { name := "keyOf", desc := "(I)J", sig := { parameters := [.int], returnType := some .long }, accessFlags := 8, code := some k2c0 }
/-- com/example/linearis/linearis/search/ConfigurationSet -/
def k2 : Class := { plain "com/example/linearis/linearis/search/ConfigurationSet" (some 0) with
  accessFlags := 48
  interfaces := #[]
  cf := some (fileOf pool2 10 #[] #[{ accessFlags := 8, nameIndex := 90, descriptorIndex := 91, attributes := #[] }] 48 2 #[] #[{ accessFlags := 26, nameIndex := 83, descriptorIndex := 14, attributes := #[] }, { accessFlags := 26, nameIndex := 86, descriptorIndex := 14, attributes := #[] }, { accessFlags := 18, nameIndex := 13, descriptorIndex := 14, attributes := #[] }, { accessFlags := 2, nameIndex := 17, descriptorIndex := 18, attributes := #[] }, { accessFlags := 2, nameIndex := 21, descriptorIndex := 22, attributes := #[] }, { accessFlags := 2, nameIndex := 25, descriptorIndex := 18, attributes := #[] }, { accessFlags := 2, nameIndex := 50, descriptorIndex := 14, attributes := #[] }, { accessFlags := 2, nameIndex := 28, descriptorIndex := 29, attributes := #[] }])
  fields := #[{ name := "FIRST_CAPACITY", type := .int, accessFlags := 26, slot := 0, constantValue := 0 }, { name := "MAX_SIZE", type := .int, accessFlags := 26, slot := 1, constantValue := 0 }, { name := "words", type := .int, accessFlags := 18, slot := 0, constantValue := 0 }, { name := "placed", type := (.array .long), accessFlags := 2, slot := 1, constantValue := 0 }, { name := "states", type := (.array (.object "java/lang/Object")), accessFlags := 2, slot := 2, constantValue := 0 }, { name := "hashes", type := (.array .long), accessFlags := 2, slot := 3, constantValue := 0 }, { name := "size", type := .int, accessFlags := 2, slot := 4, constantValue := 0 }, { name := "slots", type := (.array .int), accessFlags := 2, slot := 5, constantValue := 0 }]
  methods := #[k2m0]
  instanceTypes := #[.int, (.array .long), (.array (.object "java/lang/Object")), (.array .long), .int, (.array .int)]
  staticTypes := #[.int, .int]
  resolved := Array.replicate 97 none
  statics := none }

def pool3 : Array CpInfo := pool [(1, u "java/lang/Cloneable"), (0, .class_ 1), (0, u "java/lang/Object"), (0, .class_ 3)] 3

/-- java/lang/Cloneable -/
def k3 : Class := { plain "java/lang/Cloneable" (some 0) with
  accessFlags := 1537
  interfaces := #[]
  cf := some (fileOf pool3 2 #[] #[] 1537 4 #[] #[])
  fields := #[]
  methods := #[]
  instanceTypes := #[]
  staticTypes := #[]
  resolved := Array.replicate 8 none
  statics := none }

def pool4 : Array CpInfo := pool [(1, u "java/io/Serializable"), (0, .class_ 1), (0, u "java/lang/Object"), (0, .class_ 3)] 3

/-- java/io/Serializable -/
def k4 : Class := { plain "java/io/Serializable" (some 0) with
  accessFlags := 1537
  interfaces := #[]
  cf := some (fileOf pool4 2 #[] #[] 1537 4 #[] #[])
  fields := #[]
  methods := #[]
  instanceTypes := #[]
  staticTypes := #[]
  resolved := Array.replicate 8 none
  statics := none }

/-- the primitive byte -/
def k5 : Class := { plain "byte" none with kind := .primitive 'B', accessFlags := 0x411 }
/-- [B -/
def k6 : Class := { plain "[B" (some 0) with kind := .array 5 .byte, interfaces := #[3, 4], accessFlags := 1041 }

/-- the primitive int -/
def k7 : Class := { plain "int" none with kind := .primitive 'I', accessFlags := 0x411 }
/-- [I -/
def k8 : Class := { plain "[I" (some 0) with kind := .array 7 .int, interfaces := #[3, 4], accessFlags := 1041 }

def heap : Heap := #[]
def classes : Array Class := #[k0, k1, k2, k3, k4, k5, k6, k7, k8]
def interned : List (Array UInt16 × Addr) := []
def slotsUsed : Nat := 0
def theMethod : MethodId := ⟨1, 2⟩
def args0 : Array Value := #[.int 5]
def aboutOver (below : List Frame) : State where
  vm := { classes := classes, interned := interned.toArray }
  heap := heap
  slotsUsed := slotsUsed
  threads := #[{ frames := .invoking theMethod args0 :: below }]
def below0 : List Frame := [.native { method := ⟨0, 0⟩, args := #[] }]
def about1 : State := aboutOver below0
def p0 : Program := .bare "" "" ""
def e0 : Env := launch0.env 0 0 0
theorem w_frames : about1.frames = Frame.invoking theMethod args0 :: below0 := rfl
set_option maxRecDepth 65536 in
theorem w_args : argsFit about1.vm theMethod args0 = true := by decide +kernel
set_option maxRecDepth 65536 in
theorem w_heap : heapFits about1 = true := by decide +kernel
set_option maxRecDepth 65536 in
theorem w_runnable : about1.curStatus? = some .runnable := by decide +kernel
set_option maxRecDepth 65536 in
theorem w_alone : about1.alone = true := by decide +kernel
set_option maxRecDepth 65536 in
theorem w_named : about1.methodNamed? x = some theMethod := by decide +kernel
set_option maxRecDepth 65536 in
theorem w_hears : about1.hears theMethod below0 = true := by decide +kernel
set_option maxRecDepth 65536 in
theorem w_ripe : about1.ripe theMethod args0 below0 = true := by decide +kernel
theorem w_running : about1.status = .running := rfl
set_option maxRecDepth 65536 in
theorem w_room : about1.hasRoom e0.platform room_1 = true :=
  launch0.hasRoom_least _ room_1 (by decide +kernel) (by decide +kernel) (by decide +kernel) (by decide +kernel) (by decide +kernel) (by decide +kernel)
theorem allAtoms_all (ts : List Jvm.Cond) (a : Array Jvm.Value) (st : Jvm.State) : (allAtoms ts).before a st = ts.all (fun c => c.before a st) := by
  induction ts with
  | nil => rfl
  | cons c t ih =>
    show (Jvm.Cond.and c (allAtoms t)).before a st = _
    rw [Jvm.Cond.before_and, ih, List.all_cons]
def words1 : List Jvm.Cond := Jvm.Cond.code x code maxLocals ret :: tables_1
/-- a 'code' word, met by the world's own term for the bytes: nothing is compared byte by byte -/
theorem code_word {y : MethodName} {bytes : ByteArray} {mx : Nat} {rt : Option FieldType} {a : Array Value} {s : State} {m : MethodId} {meth : Method} {c : Code} (h1 : s.methodNamed? y = some m) (h2 : s.vm.method? m = some meth) (h3 : meth.code = some c) (h4 : c.code = bytes)
    (h5 : (c.maxLocals == mx && c.exceptionTable.isEmpty && decide (c.maxStack ≤ mostOperands) && decide (meth.sig.returnType = rt) && !meth.locks && decide (parseMethodDescriptor y.desc = some meth.sig)) = true) : (Jvm.Cond.code y bytes mx rt).before a s = true := by
  simp only [Bool.and_eq_true, beq_iff_eq, Bool.not_eq_true', decide_eq_true_eq] at h5
  obtain ⟨⟨⟨⟨⟨g1, g2⟩, g3⟩, g4⟩, g5⟩, g6⟩ := h5
  simp [Cond.before, Cond.holds, Cond.value, h1, h2, h3, h4, g1, g2, g3, g4, g5, g6]
def isCode : Jvm.Cond → Bool
  | .code _ _ _ _ => true
  | _ => false
theorem all_split {L : List Jvm.Cond} {P : Jvm.Cond → Bool} (h1 : L.all (fun c => isCode c || P c) = true) (h2 : ∀ c ∈ L.filter isCode, P c = true) : L.all P = true := by
  refine List.all_eq_true.mpr fun c hc => ?_
  have h := List.all_eq_true.mp h1 c hc
  rcases Bool.eq_false_or_eq_true (isCode c) with hi | hi
  · exact h2 c (List.mem_filter.mpr ⟨hc, hi⟩)
  · simpa [hi] using h
set_option maxRecDepth 65536 in
theorem w_c0 : (Jvm.Cond.code x code maxLocals ret).before args0 about1 = true := code_word (m := ⟨1, 2⟩) (meth := k1m2) (c := k1c2) (by decide +kernel) rfl rfl rfl (by decide +kernel)
set_option maxRecDepth 65536 in
theorem w_c1 : (Jvm.Cond.code ({ cls := "com/example/linearis/linearis/search/ConfigurationSet", name := "keyOf", desc := "(I)J" } : Jvm.MethodName) prog_73_method_2_code (3 : Nat) (Option.some Jvm.ClassFile.FieldType.long)).before args0 about1 = true := code_word (m := ⟨2, 0⟩) (meth := k2m0) (c := k2c0) (by decide +kernel) rfl rfl rfl (by decide +kernel)
set_option maxRecDepth 65536 in
theorem w_c2 : (Jvm.Cond.code ({ cls := "com/example/linearis/linearis/search/ConfigurationSetKeyOfPinLaw", name := "unmix", desc := "(J)J" } : Jvm.MethodName) method_2_code (12 : Nat) (Option.some Jvm.ClassFile.FieldType.long)).before args0 about1 = true := code_word (m := ⟨1, 1⟩) (meth := k1m1) (c := k1c1) (by decide +kernel) rfl rfl rfl (by decide +kernel)
def codes1 : List Jvm.Cond := [Jvm.Cond.code x code maxLocals ret, Jvm.Cond.code ({ cls := "com/example/linearis/linearis/search/ConfigurationSet", name := "keyOf", desc := "(I)J" } : Jvm.MethodName) prog_73_method_2_code (3 : Nat) (Option.some Jvm.ClassFile.FieldType.long), Jvm.Cond.code ({ cls := "com/example/linearis/linearis/search/ConfigurationSetKeyOfPinLaw", name := "unmix", desc := "(J)J" } : Jvm.MethodName) method_2_code (12 : Nat) (Option.some Jvm.ClassFile.FieldType.long)]
set_option maxRecDepth 65536 in
theorem codes_eq : words1.filter isCode = codes1 := rfl
theorem w_codes : ∀ c ∈ words1.filter isCode, c.before args0 about1 = true := by
  rw [codes_eq]
  intro c hc
  simp only [codes1, List.mem_cons, List.not_mem_nil, or_false] at hc
  rcases hc with rfl | rfl | rfl
  · exact w_c0
  · exact w_c1
  · exact w_c2
set_option maxRecDepth 65536 in
theorem w_t1 : words1.all (fun c => isCode c || c.before args0 about1) = true := by decide +kernel
theorem w_tables : (allAtoms (Jvm.Cond.code x code maxLocals ret :: tables_1)).before args0 about1 = true := by
  rw [allAtoms_all]
  show words1.all (fun c => c.before args0 about1) = true
  refine all_split ?_ w_codes
  rw [w_t1]
set_option maxRecDepth 65536 in
theorem w_case : (Jvm.Cond.and given_1 narrow_1).before args0 about1 = true := by decide +kernel
theorem w_applies : (headSpec (Jvm.Cond.code x code maxLocals ret :: tables_1) room_1).applies x e0.platform about1 = true :=
  (Spec.applies_iff w_frames).mpr ⟨w_running, w_runnable, w_alone, w_named, w_hears, w_ripe, w_room, w_tables⟩
theorem atStart : AtStart classFile x code maxLocals ret World_1 tables_1 room_1 Calls_1 rest_1 Pre_1 launch0 p0 e0 about1 theMethod args0 below0 :=
  ⟨lists_1, trivial, launch0.admits_env _ _ _, launch0.least_env, fairChoices_fair.cas, fairChoices_fair.clock, w_frames, w_args, w_heap, w_applies, trivial, trivial, w_case⟩
end start1
theorem witness_1 : WitnessClaimed_1 := ⟨start1.p0, start1.e0, start1.about1, start1.theMethod, start1.args0, start1.below0, start1.atStart⟩
end Jvm.Pilot.@@N@@
