import JvmDerived
import JvmDerived.Pilot.@@N@@Statement
import JvmDerived.Pilot.@@N@@Code
set_option linter.unusedVariables false
set_option linter.unusedSimpArgs false
namespace Jvm.RoadKit
open Sem ClassFile Op Lib Jvm.Stand Jvm.Free Jvm.LawKit
section New
variable {p : Program} {l : Launch} {e : Env} {R : Room} {s : State} {m : MethodId} {args : Array Value} {below : List Frame} {meth : Method} {c : Code} {T : State} {locs : List Loc} {cells slots : Nat}
theorem retI (X : Stand p l e R s m args below meth c T locs cells slots) (hx : p.tables.exec = Jvm.exec) {pc : Nat} {Ls : Array Slot} {z : Int32} {rest : List Value} (hret : meth.sig.returnType = some .int) (hd : decode c.code pc = .ok (.ireturn, 1)) {fs : List Frame}
    (hl : ∀ (f : JFrame) (acts : List Action), f.method = m → f.locked = none → f.entered = [] → (doReturn e (T.setTop f) acts (some (.int z))).1 = T.setFrames fs) : Steps p.tables e below (T.setTop (mkF m pc Ls (.int z :: rest))) (T.setFrames fs) := by
  have hm' : T.vm.method? m = some meth := X.method'
  have hn : narrow .int (.int z) = .int z := rfl
  show Steps p.tables e below (T.setTop { method := m, pc := pc, locals := Ls, stack := _ :: rest, locked := none }) _
  jvm_step X.here [X.here.top, hx, hd, hm', hret, hn]
  first | (intro acts; rw [hl _ acts rfl rfl rfl]) | rw [hl _ _ rfl rfl rfl]
  exact Steps.refl _
theorem retA (X : Stand p l e R s m args below meth c T locs cells slots) (hx : p.tables.exec = Jvm.exec) {pc : Nat} {Ls : Array Slot} {a : Addr} {t : FieldType} {rest : List Value} (hret : meth.sig.returnType = some t) (ht : t.isReference = true) (hn : narrow t (.ref a) = .ref a) (hd : decode c.code pc = .ok (.areturn, 1)) {fs : List Frame}
    (hl : ∀ (f : JFrame) (acts : List Action), f.method = m → f.locked = none → f.entered = [] → (doReturn e (T.setTop f) acts (some (.ref a))).1 = T.setFrames fs) : Steps p.tables e below (T.setTop (mkF m pc Ls (.ref a :: rest))) (T.setFrames fs) :=
  retOut X hx hret hn (Or.inr (Or.inr (Or.inr (Or.inr ⟨rfl, ht, rfl⟩)))) hd hl
def Gd (tb : Tables) (e : Env) (below : List Frame) (P : State → Outcome → Prop) (A : State) : Prop := ∃ t o, Steps tb e below A t ∧ P t o
theorem Gd.out {tb : Tables} {P : State → Outcome → Prop} {A : State} (h : Gd tb e below P A) : ∃ t o, Steps tb e below A t ∧ P t o := h
theorem Gd.st {tb : Tables} {P : State → Outcome → Prop} {A B : State} (h : ∀ t, Steps tb e below B t → Steps tb e below A t) (k : Gd tb e below P B) : Gd tb e below P A := by
  obtain ⟨t, o, k1, k2⟩ := k; exact ⟨t, o, h t k1, k2⟩
theorem Gd.join {tb : Tables} {P : State → Outcome → Prop} {A B : State} (h : Gd tb e below P B → Gd tb e below P A) (k : Gd tb e below P B) : Gd tb e below P A := h k
theorem Gd.mk {tb : Tables} {P : State → Outcome → Prop} {A t : State} {o : Outcome} (h : Steps tb e below A t) (k : P t o) : Gd tb e below P A := ⟨t, o, h, k⟩
end New
end Jvm.RoadKit
namespace Jvm.Pilot.@@N@@
open Jvm Jvm.ClassFile Sem Op Lib Jvm.Free Jvm.Stand Jvm.LawKit Jvm.RoadKit Bundle Jvm.Pilot.@@N@@.Jvm.D
def own_xs (z : Int64) (k : Int32) : Int64 := z ^^^ ((z.toUInt64 >>> (k &&& 0x3f).toInt64.toUInt64).toInt64)
def own_b (z : Int64) : Int64 := own_xs z (30 : Int32) * (-4658895280553007687 : Int64)
def own_c (z : Int64) : Int64 := own_xs z (27 : Int32) * (-7723592293110705685 : Int64)
def own_mix (z : Int64) : Int64 := own_xs (own_c (own_b z)) (31 : Int32)
def own_ux (z : Int64) (k : Int32) : Int64 := (z ^^^ ((z.toUInt64 >>> (k &&& 0x3f).toInt64.toUInt64).toInt64)) ^^^ ((z.toUInt64 >>> (((2 : Int32) * k) &&& 0x3f).toInt64.toUInt64).toInt64)
def own_nt (a x : Int64) : Int64 := x * ((2 : Int64) - a * x)
def own_inv (a : Int64) : Int64 := own_nt a (own_nt a (own_nt a (own_nt a (own_nt a a))))
def own_u1 (z : Int64) : Int64 := own_ux z (31 : Int32) * own_inv (-7723592293110705685 : Int64)
def own_u2 (z : Int64) : Int64 := own_ux z (27 : Int32) * own_inv (-4658895280553007687 : Int64)
def own_unmix (z : Int64) : Int64 := own_ux (own_u2 (own_u1 z)) (30 : Int32)
theorem own_bv (x : BitVec 64) (k : Nat) (h : 64 ≤ 3 * k) : ((x ^^^ (x >>> k)) ^^^ ((x ^^^ (x >>> k)) >>> k)) ^^^ ((x ^^^ (x >>> k)) >>> (2 * k)) = x := by
  apply BitVec.eq_of_getLsbD_eq
  intro i hi
  have e : x.getLsbD (k + (2 * k + i)) = false := BitVec.getLsbD_of_ge _ _ (by omega)
  have e1 : k + (k + i) = 2 * k + i := by omega
  simp only [BitVec.getLsbD_xor, BitVec.getLsbD_ushiftRight, e, e1]
  cases x.getLsbD i <;> cases x.getLsbD (k + i) <;> cases x.getLsbD (2 * k + i) <;> rfl
theorem own_sx (z : Int64) (k : Int32) (n : Nat) (h : ((k &&& 0x3f).toInt64.toUInt64.toBitVec % 64#64).toNat = n) : ((z.toUInt64 >>> (k &&& 0x3f).toInt64.toUInt64).toInt64).toBitVec = z.toBitVec >>> n := by
  show z.toBitVec >>> ((k &&& 0x3f).toInt64.toUInt64.toBitVec % 64#64).toNat = _
  rw [h]
theorem own_back (z : Int64) (k : Int32) (n : Nat) (h3 : 64 ≤ 3 * n) (h : ((k &&& 0x3f).toInt64.toUInt64.toBitVec % 64#64).toNat = n) (h2 : ((((2 : Int32) * k) &&& 0x3f).toInt64.toUInt64.toBitVec % 64#64).toNat = 2 * n) : own_ux (own_xs z k) k = z := by
  apply Int64.toBitVec_inj.mp
  unfold own_ux own_xs
  simp only [Int64.toBitVec_xor, own_sx _ k n h, own_sx _ ((2 : Int32) * k) (2 * n) h2]
  exact own_bv _ n h3
theorem own_law (z : Int64) : own_unmix (own_mix z) = z := by
  unfold own_unmix own_mix own_u1
  rw [own_back _ 31 31 (by decide) (by decide) (by decide)]
  unfold own_c own_u2
  rw [Int64.mul_assoc, show (-7723592293110705685 : Int64) * own_inv (-7723592293110705685) = 1 from by decide +kernel, Int64.mul_one, own_back _ 27 27 (by decide) (by decide) (by decide)]
  unfold own_b
  rw [Int64.mul_assoc, show (-4658895280553007687 : Int64) * own_inv (-4658895280553007687) = 1 from by decide +kernel, Int64.mul_one, own_back _ 30 30 (by decide) (by decide) (by decide)]
theorem own_law2 (q : Int64) : own_unmix (own_mix ((q + (-7046029254386353131 : Int64)) + (-7046029254386353131 : Int64))) = q + ((2 : Int64) * (-7046029254386353131 : Int64)) := by
  rw [own_law, Int64.add_assoc]
  rfl
theorem d1_0 : decode prog_11_method_1_code 0 = .ok (.aload_n 0, 1) := by decide +kernel
theorem d1_1 : decode prog_11_method_1_code 1 = .ok (.invokespecial 1, 3) := by decide +kernel
theorem d1_4 : decode prog_11_method_1_code 4 = .ok (.aload_n 0, 1) := by decide +kernel
theorem d1_5 : decode prog_11_method_1_code 5 = .ok (.lload_n 1, 1) := by decide +kernel
theorem d1_6 : decode prog_11_method_1_code 6 = .ok (.putfield 7, 3) := by decide +kernel
theorem d1_9 : decode prog_11_method_1_code 9 = .ok (.return_, 1) := by decide +kernel
theorem pn_SeededRandom : plainName "com/example/geogauge/geogauge/SeededRandom" = true := by first | (simp [plainName, overriddenIn]; done) | decide +kernel
theorem ef_1 (m : MethodId) (x0 : Addr) (x1 : Int64) : entryFrame m #[(.ref x0), (.long x1)] 3 = mkF m 0 #[.val (.ref x0), .val (.long x1), .second] [] := by first | (simp [entryFrame, mkF, argsToLocals, Value.category]; done) | rfl
def Q1 (Z : State) (a1 : Addr) (q2 : Int64) (h0 : Heap) (n0 : Nat) (v : Option Value) (h : Heap) (L : List Loc) : Prop := v = none ∧ Fr n0 L ∧ Keep h0 h [a1] ∧ Exa Z h a1 "com/example/geogauge/geogauge/SeededRandom" ∧ Fld Z h a1 "com/example/geogauge/geogauge/SeededRandom" "state" "J" (.long q2)
set_option maxRecDepth 65536 in
set_option maxHeartbeats 40000000 in
theorem rm1 (l : Launch) (Z : State) (a0 : Array Value) (hw : ∀ d ∈ tables_1, d.before a0 Z = true) (ws : List Jvm.Cond) (a1 : Addr) (q2 : Int64) (h0 : Heap) (n0 : Nat) (Z0 : n0 ≤ h0.size) (E0 : Exa Z h0 a1 "com/example/geogauge/geogauge/SeededRandom") (F0_0 : Fld Z h0 a1 "com/example/geogauge/geogauge/SeededRandom" "state" "J" (.long (0 : Int64))) (g_a1 : n0 ≤ a1) :
    MetFree l (⟨"com/example/geogauge/geogauge/SeededRandom", "<init>", "(J)V"⟩ : MethodName) (head1 (Jvm.Cond.code (⟨"com/example/geogauge/geogauge/SeededRandom", "<init>", "(J)V"⟩ : MethodName) prog_11_method_1_code 3 none :: ws) ({ frames := 1, cells := 0, slots := 0, locals := 12 } : Room)) (fun a U => a = #[(.ref a1), (.long q2)] ∧ Z.Warmed39 U.vm ∧ U.heap = h0) (fun _ _ _ _ _ => True) (fun _ U o U' => ∃ v L, o = .returned v ∧ Q1 Z a1 q2 h0 n0 v U'.heap L ∧ FrameEnd U o U' L ({ frames := 1, cells := 0, slots := 0, locals := 12 } : Room).cells ({ frames := 1, cells := 0, slots := 0, locals := 12 } : Room).slots) := by
  refine MetFree.of_bodySF (plainFor_of_name pn_SeededRandom) hisR ?_
  intro p e s m args below meth c s₁ Bd hml0 hP hK
  obtain ⟨rfl, hZ, hh⟩ := hP
  have hx := Bd.exec
  have hby := Bd.bytes
  have hml : c.maxLocals = 3 := hml0
  have hown : s.vm.findClass "com/example/geogauge/geogauge/SeededRandom" = some m.cls := findClass_of_methodNamed Bd.named
  have hnm := (name_of_methodNamed Bd.named Bd.method).1
  have X0 : Stand p l e ({ frames := 1, cells := 0, slots := 0, locals := 12 } : Room) s m #[(.ref a1), (.long q2)] below meth c s₁ [] 0 0 := Stand.of_body Bd
  have e0 : s₁.heap = h0 := by rw [← hh, Bd.state]; rfl
  have N0 := Fr.nil n0
  refine Gd.out (Gd.st (fun t k => castTop (ef_1 m a1 q2) k) ?_)
  show Gd p.tables e below _ (s₁.setTop (mkF m 0 #[.val (.ref a1), .val (.long q2), .second] []))
  refine Gd.st (fun _ k => XS.aloadN X0.here hx rfl (hb hby d1_0) rfl rfl k) ?_
  show Gd p.tables e below _ (s₁.setTop (mkF m 1 #[.val (.ref a1), .val (.long q2), .second] [(.ref a1)]))
  obtain ⟨T1, X1, e1, st1⟩ := initO X0 hx hZ hown (hw _ (List.mem_of_getElem? (i := 7) rfl)) (hw _ (List.mem_of_getElem? (i := 8) rfl)) (hw _ (List.mem_of_getElem? (i := 9) rfl)) e0 (g := (mkF m 1 #[.val (.ref a1), .val (.long q2), .second] [(.ref a1)])) rfl (by rw [hml]; rfl) rfl (hb hby d1_1) (by decide) (W := 0) (by show 2 * 0 + _ ≤ _; exact Nat.le_of_eq rfl) (by decide)
  refine Gd.st st1 ?_
  show Gd p.tables e below _ (T1.setTop (mkF m 4 #[.val (.ref a1), .val (.long q2), .second] []))
  refine Gd.st (fun _ k => XS.aloadN X1.here hx rfl (hb hby d1_4) rfl rfl k) ?_
  show Gd p.tables e below _ (T1.setTop (mkF m 5 #[.val (.ref a1), .val (.long q2), .second] [(.ref a1)]))
  refine Gd.st (fun _ k => XS.lloadN X1.here hx rfl (hb hby d1_5) rfl k) ?_
  show Gd p.tables e below _ (T1.setTop (mkF m 6 #[.val (.ref a1), .val (.long q2), .second] [(.long q2), (.ref a1)]))
  obtain ⟨T2, h2, X2, e2, W2, st2⟩ := putF X1 hx hZ hown (host := "") (Or.inl (hw _ (List.mem_of_getElem? (i := 10) rfl))) Via.refl e1 F0_0 E0 (Or.inl (hw _ (List.mem_of_getElem? (i := 11) rfl))) (hw _ (List.mem_of_getElem? (i := 2) rfl)) (ty := .long) (by decide) rfl rfl (g := (mkF m 6 #[.val (.ref a1), .val (.long q2), .second] [(.long q2), (.ref a1)])) rfl rfl (hb hby d1_6)
  refine Gd.st st2 ?_
  have Fw2 := F0_0.same W2
  have N2 := Fr.snoc X2 N0 g_a1
  have Z3 : n0 ≤ h2.size := Nat.le_trans Z0 (Keep.of_wr W2).1
  have K4 : Keep h0 h2 [a1] := (Keep.refl h0 [a1]).wr W2 (Or.inl (List.mem_of_getElem? (i := 0) rfl))
  show Gd p.tables e below _ (T2.setTop (mkF m 9 #[.val (.ref a1), .val (.long q2), .second] []))
  obtain ⟨fs, hr, hrun, hended, hW, hsame⟩ := X2.leave (v := none) (fun _ => rfl) Bd.notSynchronized
  have q5 := (E0.wr W2)
  refine Gd.mk (o := .returned (none)) (X2.returnOut hx Bd.returns (hb hby d1_9) hr) ⟨hrun, hended, _, _, rfl, ?_, ⟨_, rfl⟩, hW, hsame.mono (by decide) (by decide)⟩
  show Q1 Z a1 q2 h0 n0 _ T2.heap _
  rw [e2]
  exact ⟨rfl, N2, K4, q5, Fw2⟩
theorem d3_0 : decode prog_11_method_2_code 0 = .ok (.aload_n 0, 1) := by decide +kernel
theorem d3_1 : decode prog_11_method_2_code 1 = .ok (.dup, 1) := by decide +kernel
theorem d3_2 : decode prog_11_method_2_code 2 = .ok (.getfield 7, 3) := by decide +kernel
theorem d3_5 : decode prog_11_method_2_code 5 = .ok (.ldc2_w 13, 3) := by decide +kernel
theorem d3_8 : decode prog_11_method_2_code 8 = .ok (.ladd, 1) := by decide +kernel
theorem d3_9 : decode prog_11_method_2_code 9 = .ok (.putfield 7, 3) := by decide +kernel
theorem d3_12 : decode prog_11_method_2_code 12 = .ok (.aload_n 0, 1) := by decide +kernel
theorem d3_13 : decode prog_11_method_2_code 13 = .ok (.getfield 7, 3) := by decide +kernel
theorem d3_16 : decode prog_11_method_2_code 16 = .ok (.lstore_n 1, 1) := by decide +kernel
theorem d3_17 : decode prog_11_method_2_code 17 = .ok (.lload_n 1, 1) := by decide +kernel
theorem d3_18 : decode prog_11_method_2_code 18 = .ok (.lload_n 1, 1) := by decide +kernel
theorem d3_19 : decode prog_11_method_2_code 19 = .ok (.bipush 30, 2) := by decide +kernel
theorem d3_21 : decode prog_11_method_2_code 21 = .ok (.lushr, 1) := by decide +kernel
theorem d3_22 : decode prog_11_method_2_code 22 = .ok (.lxor, 1) := by decide +kernel
theorem d3_23 : decode prog_11_method_2_code 23 = .ok (.ldc2_w 15, 3) := by decide +kernel
theorem d3_26 : decode prog_11_method_2_code 26 = .ok (.lmul, 1) := by decide +kernel
theorem d3_27 : decode prog_11_method_2_code 27 = .ok (.lstore_n 1, 1) := by decide +kernel
theorem d3_28 : decode prog_11_method_2_code 28 = .ok (.lload_n 1, 1) := by decide +kernel
theorem d3_29 : decode prog_11_method_2_code 29 = .ok (.lload_n 1, 1) := by decide +kernel
theorem d3_30 : decode prog_11_method_2_code 30 = .ok (.bipush 27, 2) := by decide +kernel
theorem d3_32 : decode prog_11_method_2_code 32 = .ok (.lushr, 1) := by decide +kernel
theorem d3_33 : decode prog_11_method_2_code 33 = .ok (.lxor, 1) := by decide +kernel
theorem d3_34 : decode prog_11_method_2_code 34 = .ok (.ldc2_w 17, 3) := by decide +kernel
theorem d3_37 : decode prog_11_method_2_code 37 = .ok (.lmul, 1) := by decide +kernel
theorem d3_38 : decode prog_11_method_2_code 38 = .ok (.lstore_n 1, 1) := by decide +kernel
theorem d3_39 : decode prog_11_method_2_code 39 = .ok (.lload_n 1, 1) := by decide +kernel
theorem d3_40 : decode prog_11_method_2_code 40 = .ok (.lload_n 1, 1) := by decide +kernel
theorem d3_41 : decode prog_11_method_2_code 41 = .ok (.bipush 31, 2) := by decide +kernel
theorem d3_43 : decode prog_11_method_2_code 43 = .ok (.lushr, 1) := by decide +kernel
theorem d3_44 : decode prog_11_method_2_code 44 = .ok (.lxor, 1) := by decide +kernel
theorem d3_45 : decode prog_11_method_2_code 45 = .ok (.lreturn, 1) := by decide +kernel
theorem ef_3 (m : MethodId) (x0 : Addr) : entryFrame m #[(.ref x0)] 3 = mkF m 0 #[.val (.ref x0), .unset, .unset] [] := by first | (simp [entryFrame, mkF, argsToLocals, Value.category]; done) | rfl
def Q3 (Z : State) (a1 : Addr) (w1 : Int64) (h0 : Heap) (n0 : Nat) (v : Option Value) (h : Heap) (L : List Loc) : Prop := v = some (.long (own_mix (w1 + (-7046029254386353131 : Int64)))) ∧ Fr n0 L ∧ Keep h0 h [a1] ∧ Exa Z h a1 "com/example/geogauge/geogauge/SeededRandom" ∧ Fld Z h a1 "com/example/geogauge/geogauge/SeededRandom" "state" "J" (.long (w1 + (-7046029254386353131 : Int64)))
set_option maxRecDepth 65536 in
set_option maxHeartbeats 40000000 in
theorem rm3 (l : Launch) (Z : State) (a0 : Array Value) (hw : ∀ d ∈ tables_1, d.before a0 Z = true) (ws : List Jvm.Cond) (a1 : Addr) (w1 : Int64) (h0 : Heap) (n0 : Nat) (Z0 : n0 ≤ h0.size) (E0 : Exa Z h0 a1 "com/example/geogauge/geogauge/SeededRandom") (F0_0 : Fld Z h0 a1 "com/example/geogauge/geogauge/SeededRandom" "state" "J" (.long w1)) (g_a1 : n0 ≤ a1) :
    MetFree l (⟨"com/example/geogauge/geogauge/SeededRandom", "nextLong", "()J"⟩ : MethodName) (head1 (Jvm.Cond.code (⟨"com/example/geogauge/geogauge/SeededRandom", "nextLong", "()J"⟩ : MethodName) prog_11_method_2_code 3 (some .long) :: ws) ({ frames := 0, cells := 0, slots := 0, locals := 0 } : Room)) (fun a U => a = #[(.ref a1)] ∧ Z.Warmed39 U.vm ∧ U.heap = h0) (fun _ _ _ _ _ => True) (fun _ U o U' => ∃ v L, o = .returned v ∧ Q3 Z a1 w1 h0 n0 v U'.heap L ∧ FrameEnd U o U' L ({ frames := 0, cells := 0, slots := 0, locals := 0 } : Room).cells ({ frames := 0, cells := 0, slots := 0, locals := 0 } : Room).slots) := by
  refine MetFree.of_bodySF (plainFor_of_name pn_SeededRandom) hisR ?_
  intro p e s m args below meth c s₁ Bd hml0 hP hK
  obtain ⟨rfl, hZ, hh⟩ := hP
  have hx := Bd.exec
  have hby := Bd.bytes
  have hml : c.maxLocals = 3 := hml0
  have hown : s.vm.findClass "com/example/geogauge/geogauge/SeededRandom" = some m.cls := findClass_of_methodNamed Bd.named
  have hnm := (name_of_methodNamed Bd.named Bd.method).1
  have X0 : Stand p l e ({ frames := 0, cells := 0, slots := 0, locals := 0 } : Room) s m #[(.ref a1)] below meth c s₁ [] 0 0 := Stand.of_body Bd
  have e0 : s₁.heap = h0 := by rw [← hh, Bd.state]; rfl
  have N0 := Fr.nil n0
  refine Gd.out (Gd.st (fun t k => castTop (ef_3 m a1) k) ?_)
  show Gd p.tables e below _ (s₁.setTop (mkF m 0 #[.val (.ref a1), .unset, .unset] []))
  refine Gd.st (fun _ k => XS.aloadN X0.here hx rfl (hb hby d3_0) rfl rfl k) ?_
  show Gd p.tables e below _ (s₁.setTop (mkF m 1 #[.val (.ref a1), .unset, .unset] [(.ref a1)]))
  refine Gd.st (fun _ k => XS.dup X0.here hx rfl (hb hby d3_1) rfl rfl k) ?_
  show Gd p.tables e below _ (s₁.setTop (mkF m 2 #[.val (.ref a1), .unset, .unset] [(.ref a1), (.ref a1)]))
  obtain ⟨T1, X1, e1, st1⟩ := getF X0 hx hZ hown (host := "") (Or.inl (hw _ (List.mem_of_getElem? (i := 10) rfl))) Via.refl e0 F0_0 (g := (mkF m 2 #[.val (.ref a1), .unset, .unset] [(.ref a1), (.ref a1)])) rfl rfl (hb hby d3_2)
  refine Gd.st st1 ?_
  show Gd p.tables e below _ (T1.setTop (mkF m 5 #[.val (.ref a1), .unset, .unset] [(.long w1), (.ref a1)]))
  refine Gd.st (fun _ k => X1.ldc2Long hx hown (mvT hZ (hw _ (List.mem_of_getElem? (i := 17) rfl))) (g := (mkF m 5 #[.val (.ref a1), .unset, .unset] [(.long w1), (.ref a1)])) rfl (hb hby d3_5) _ k) ?_
  show Gd p.tables e below _ (T1.setTop (mkF m 8 #[.val (.ref a1), .unset, .unset] [(.long (-7046029254386353131 : Int64)), (.long w1), (.ref a1)]))
  refine Gd.st (fun _ k => XS.ladd X1.here hx rfl (hb hby d3_8) rfl k) ?_
  show Gd p.tables e below _ (T1.setTop (mkF m 9 #[.val (.ref a1), .unset, .unset] [(.long (w1 + (-7046029254386353131 : Int64))), (.ref a1)]))
  obtain ⟨T2, h2, X2, e2, W2, st2⟩ := putF X1 hx hZ hown (host := "") (Or.inl (hw _ (List.mem_of_getElem? (i := 10) rfl))) Via.refl e1 F0_0 E0 (Or.inl (hw _ (List.mem_of_getElem? (i := 11) rfl))) (hw _ (List.mem_of_getElem? (i := 2) rfl)) (ty := .long) (by decide) rfl rfl (g := (mkF m 9 #[.val (.ref a1), .unset, .unset] [(.long (w1 + (-7046029254386353131 : Int64))), (.ref a1)])) rfl rfl (hb hby d3_9)
  refine Gd.st st2 ?_
  have Fw2 := F0_0.same W2
  have N2 := Fr.snoc X2 N0 g_a1
  have Z3 : n0 ≤ h2.size := Nat.le_trans Z0 (Keep.of_wr W2).1
  have K4 : Keep h0 h2 [a1] := (Keep.refl h0 [a1]).wr W2 (Or.inl (List.mem_of_getElem? (i := 0) rfl))
  show Gd p.tables e below _ (T2.setTop (mkF m 12 #[.val (.ref a1), .unset, .unset] []))
  refine Gd.st (fun _ k => XS.aloadN X2.here hx rfl (hb hby d3_12) rfl rfl k) ?_
  show Gd p.tables e below _ (T2.setTop (mkF m 13 #[.val (.ref a1), .unset, .unset] [(.ref a1)]))
  obtain ⟨T5, X5, e5, st5⟩ := getF X2 hx hZ hown (host := "") (Or.inl (hw _ (List.mem_of_getElem? (i := 10) rfl))) Via.refl e2 Fw2 (g := (mkF m 13 #[.val (.ref a1), .unset, .unset] [(.ref a1)])) rfl rfl (hb hby d3_13)
  refine Gd.st st5 ?_
  show Gd p.tables e below _ (T5.setTop (mkF m 16 #[.val (.ref a1), .unset, .unset] [(.long (w1 + (-7046029254386353131 : Int64)))]))
  refine Gd.st (fun _ k => XS.lstoreN X5.here hx rfl (hb hby d3_16) rfl (l' := #[.val (.ref a1), .val (.long (w1 + (-7046029254386353131 : Int64))), .second]) rfl k) ?_
  show Gd p.tables e below _ (T5.setTop (mkF m 17 #[.val (.ref a1), .val (.long (w1 + (-7046029254386353131 : Int64))), .second] []))
  refine Gd.st (fun _ k => XS.lloadN X5.here hx rfl (hb hby d3_17) rfl k) ?_
  show Gd p.tables e below _ (T5.setTop (mkF m 18 #[.val (.ref a1), .val (.long (w1 + (-7046029254386353131 : Int64))), .second] [(.long (w1 + (-7046029254386353131 : Int64)))]))
  refine Gd.st (fun _ k => XS.lloadN X5.here hx rfl (hb hby d3_18) rfl k) ?_
  show Gd p.tables e below _ (T5.setTop (mkF m 19 #[.val (.ref a1), .val (.long (w1 + (-7046029254386353131 : Int64))), .second] [(.long (w1 + (-7046029254386353131 : Int64))), (.long (w1 + (-7046029254386353131 : Int64)))]))
  refine Gd.st (fun _ k => XS.bipush X5.here hx rfl (hb hby d3_19) k) ?_
  show Gd p.tables e below _ (T5.setTop (mkF m 21 #[.val (.ref a1), .val (.long (w1 + (-7046029254386353131 : Int64))), .second] [(.int (30 : Int32)), (.long (w1 + (-7046029254386353131 : Int64))), (.long (w1 + (-7046029254386353131 : Int64)))]))
  refine Gd.st (fun _ k => XS.lushr X5.here hx rfl (hb hby d3_21) rfl k) ?_
  show Gd p.tables e below _ (T5.setTop (mkF m 22 #[.val (.ref a1), .val (.long (w1 + (-7046029254386353131 : Int64))), .second] [(.long (((w1 + (-7046029254386353131 : Int64)).toUInt64 >>> ((30 : Int32) &&& 0x3f).toInt64.toUInt64).toInt64)), (.long (w1 + (-7046029254386353131 : Int64)))]))
  refine Gd.st (fun _ k => XS.lxor X5.here hx rfl (hb hby d3_22) rfl k) ?_
  show Gd p.tables e below _ (T5.setTop (mkF m 23 #[.val (.ref a1), .val (.long (w1 + (-7046029254386353131 : Int64))), .second] [(.long (own_xs (w1 + (-7046029254386353131 : Int64)) (30 : Int32)))]))
  refine Gd.st (fun _ k => X5.ldc2Long hx hown (mvT hZ (hw _ (List.mem_of_getElem? (i := 18) rfl))) (g := (mkF m 23 #[.val (.ref a1), .val (.long (w1 + (-7046029254386353131 : Int64))), .second] [(.long (own_xs (w1 + (-7046029254386353131 : Int64)) (30 : Int32)))])) rfl (hb hby d3_23) _ k) ?_
  show Gd p.tables e below _ (T5.setTop (mkF m 26 #[.val (.ref a1), .val (.long (w1 + (-7046029254386353131 : Int64))), .second] [(.long (-4658895280553007687 : Int64)), (.long (own_xs (w1 + (-7046029254386353131 : Int64)) (30 : Int32)))]))
  refine Gd.st (fun _ k => XS.lmul X5.here hx rfl (hb hby d3_26) rfl k) ?_
  show Gd p.tables e below _ (T5.setTop (mkF m 27 #[.val (.ref a1), .val (.long (w1 + (-7046029254386353131 : Int64))), .second] [(.long (own_b (w1 + (-7046029254386353131 : Int64))))]))
  refine Gd.st (fun _ k => XS.lstoreN X5.here hx rfl (hb hby d3_27) rfl (l' := #[.val (.ref a1), .val (.long (own_b (w1 + (-7046029254386353131 : Int64)))), .second]) rfl k) ?_
  show Gd p.tables e below _ (T5.setTop (mkF m 28 #[.val (.ref a1), .val (.long (own_b (w1 + (-7046029254386353131 : Int64)))), .second] []))
  refine Gd.st (fun _ k => XS.lloadN X5.here hx rfl (hb hby d3_28) rfl k) ?_
  show Gd p.tables e below _ (T5.setTop (mkF m 29 #[.val (.ref a1), .val (.long (own_b (w1 + (-7046029254386353131 : Int64)))), .second] [(.long (own_b (w1 + (-7046029254386353131 : Int64))))]))
  refine Gd.st (fun _ k => XS.lloadN X5.here hx rfl (hb hby d3_29) rfl k) ?_
  show Gd p.tables e below _ (T5.setTop (mkF m 30 #[.val (.ref a1), .val (.long (own_b (w1 + (-7046029254386353131 : Int64)))), .second] [(.long (own_b (w1 + (-7046029254386353131 : Int64)))), (.long (own_b (w1 + (-7046029254386353131 : Int64))))]))
  refine Gd.st (fun _ k => XS.bipush X5.here hx rfl (hb hby d3_30) k) ?_
  show Gd p.tables e below _ (T5.setTop (mkF m 32 #[.val (.ref a1), .val (.long (own_b (w1 + (-7046029254386353131 : Int64)))), .second] [(.int (27 : Int32)), (.long (own_b (w1 + (-7046029254386353131 : Int64)))), (.long (own_b (w1 + (-7046029254386353131 : Int64))))]))
  refine Gd.st (fun _ k => XS.lushr X5.here hx rfl (hb hby d3_32) rfl k) ?_
  show Gd p.tables e below _ (T5.setTop (mkF m 33 #[.val (.ref a1), .val (.long (own_b (w1 + (-7046029254386353131 : Int64)))), .second] [(.long (((own_b (w1 + (-7046029254386353131 : Int64))).toUInt64 >>> ((27 : Int32) &&& 0x3f).toInt64.toUInt64).toInt64)), (.long (own_b (w1 + (-7046029254386353131 : Int64))))]))
  refine Gd.st (fun _ k => XS.lxor X5.here hx rfl (hb hby d3_33) rfl k) ?_
  show Gd p.tables e below _ (T5.setTop (mkF m 34 #[.val (.ref a1), .val (.long (own_b (w1 + (-7046029254386353131 : Int64)))), .second] [(.long (own_xs (own_b (w1 + (-7046029254386353131 : Int64))) (27 : Int32)))]))
  refine Gd.st (fun _ k => X5.ldc2Long hx hown (mvT hZ (hw _ (List.mem_of_getElem? (i := 19) rfl))) (g := (mkF m 34 #[.val (.ref a1), .val (.long (own_b (w1 + (-7046029254386353131 : Int64)))), .second] [(.long (own_xs (own_b (w1 + (-7046029254386353131 : Int64))) (27 : Int32)))])) rfl (hb hby d3_34) _ k) ?_
  show Gd p.tables e below _ (T5.setTop (mkF m 37 #[.val (.ref a1), .val (.long (own_b (w1 + (-7046029254386353131 : Int64)))), .second] [(.long (-7723592293110705685 : Int64)), (.long (own_xs (own_b (w1 + (-7046029254386353131 : Int64))) (27 : Int32)))]))
  refine Gd.st (fun _ k => XS.lmul X5.here hx rfl (hb hby d3_37) rfl k) ?_
  show Gd p.tables e below _ (T5.setTop (mkF m 38 #[.val (.ref a1), .val (.long (own_b (w1 + (-7046029254386353131 : Int64)))), .second] [(.long (own_c (own_b (w1 + (-7046029254386353131 : Int64)))))]))
  refine Gd.st (fun _ k => XS.lstoreN X5.here hx rfl (hb hby d3_38) rfl (l' := #[.val (.ref a1), .val (.long (own_c (own_b (w1 + (-7046029254386353131 : Int64))))), .second]) rfl k) ?_
  show Gd p.tables e below _ (T5.setTop (mkF m 39 #[.val (.ref a1), .val (.long (own_c (own_b (w1 + (-7046029254386353131 : Int64))))), .second] []))
  refine Gd.st (fun _ k => XS.lloadN X5.here hx rfl (hb hby d3_39) rfl k) ?_
  show Gd p.tables e below _ (T5.setTop (mkF m 40 #[.val (.ref a1), .val (.long (own_c (own_b (w1 + (-7046029254386353131 : Int64))))), .second] [(.long (own_c (own_b (w1 + (-7046029254386353131 : Int64)))))]))
  refine Gd.st (fun _ k => XS.lloadN X5.here hx rfl (hb hby d3_40) rfl k) ?_
  show Gd p.tables e below _ (T5.setTop (mkF m 41 #[.val (.ref a1), .val (.long (own_c (own_b (w1 + (-7046029254386353131 : Int64))))), .second] [(.long (own_c (own_b (w1 + (-7046029254386353131 : Int64))))), (.long (own_c (own_b (w1 + (-7046029254386353131 : Int64)))))]))
  refine Gd.st (fun _ k => XS.bipush X5.here hx rfl (hb hby d3_41) k) ?_
  show Gd p.tables e below _ (T5.setTop (mkF m 43 #[.val (.ref a1), .val (.long (own_c (own_b (w1 + (-7046029254386353131 : Int64))))), .second] [(.int (31 : Int32)), (.long (own_c (own_b (w1 + (-7046029254386353131 : Int64))))), (.long (own_c (own_b (w1 + (-7046029254386353131 : Int64)))))]))
  refine Gd.st (fun _ k => XS.lushr X5.here hx rfl (hb hby d3_43) rfl k) ?_
  show Gd p.tables e below _ (T5.setTop (mkF m 44 #[.val (.ref a1), .val (.long (own_c (own_b (w1 + (-7046029254386353131 : Int64))))), .second] [(.long (((own_c (own_b (w1 + (-7046029254386353131 : Int64)))).toUInt64 >>> ((31 : Int32) &&& 0x3f).toInt64.toUInt64).toInt64)), (.long (own_c (own_b (w1 + (-7046029254386353131 : Int64)))))]))
  refine Gd.st (fun _ k => XS.lxor X5.here hx rfl (hb hby d3_44) rfl k) ?_
  show Gd p.tables e below _ (T5.setTop (mkF m 45 #[.val (.ref a1), .val (.long (own_c (own_b (w1 + (-7046029254386353131 : Int64))))), .second] [(.long (own_mix (w1 + (-7046029254386353131 : Int64))))]))
  obtain ⟨fs, hr, hrun, hended, hW, hsame⟩ := X5.leave (v := some (.long (own_mix (w1 + (-7046029254386353131 : Int64))))) (fun h => by rw [Bd.returns] at h; cases h) Bd.notSynchronized
  have q6 := (E0.wr W2)
  refine Gd.mk (o := .returned (some (.long (own_mix (w1 + (-7046029254386353131 : Int64)))))) (X5.lreturnOut hx Bd.returns (hb hby d3_45) hr) ⟨hrun, hended, _, _, rfl, ?_, ⟨_, rfl⟩, hW, hsame.mono (by decide) (by decide)⟩
  show Q3 Z a1 w1 h0 n0 _ T5.heap _
  rw [e5]
  exact ⟨rfl, N2, K4, q6, Fw2⟩
theorem d5_0 : decode method_4_code 0 = .ok (.lload_n 0, 1) := by decide +kernel
theorem d5_1 : decode method_4_code 1 = .ok (.lload_n 0, 1) := by decide +kernel
theorem d5_2 : decode method_4_code 2 = .ok (.iload_n 2, 1) := by decide +kernel
theorem d5_3 : decode method_4_code 3 = .ok (.lushr, 1) := by decide +kernel
theorem d5_4 : decode method_4_code 4 = .ok (.lxor, 1) := by decide +kernel
theorem d5_5 : decode method_4_code 5 = .ok (.lload_n 0, 1) := by decide +kernel
theorem d5_6 : decode method_4_code 6 = .ok (.iconst 2, 1) := by decide +kernel
theorem d5_7 : decode method_4_code 7 = .ok (.iload_n 2, 1) := by decide +kernel
theorem d5_8 : decode method_4_code 8 = .ok (.imul, 1) := by decide +kernel
theorem d5_9 : decode method_4_code 9 = .ok (.lushr, 1) := by decide +kernel
theorem d5_10 : decode method_4_code 10 = .ok (.lxor, 1) := by decide +kernel
theorem d5_11 : decode method_4_code 11 = .ok (.lreturn, 1) := by decide +kernel
theorem pn_SeededRandomNextLongPinLaw : plainName "com/example/geogauge/geogauge/SeededRandomNextLongPinLaw" = true := by first | (simp [plainName, overriddenIn]; done) | decide +kernel
theorem ef_5 (m : MethodId) (x0 : Int64) (x1 : Int32) : entryFrame m #[(.long x0), (.int x1)] 3 = mkF m 0 #[.val (.long x0), .second, .val (.int x1)] [] := by first | (simp [entryFrame, mkF, argsToLocals, Value.category]; done) | rfl
def Q5 (Z : State) (q1 : Int64) (p2 : Int32) (h0 : Heap) (n0 : Nat) (v : Option Value) (h : Heap) (L : List Loc) : Prop := v = some (.long (own_ux q1 p2)) ∧ Fr n0 L ∧ h = h0
set_option maxRecDepth 65536 in
set_option maxHeartbeats 40000000 in
theorem rm5 (l : Launch) (Z : State) (a0 : Array Value) (hw : ∀ d ∈ tables_1, d.before a0 Z = true) (ws : List Jvm.Cond) (q1 : Int64) (p2 : Int32) (h0 : Heap) (n0 : Nat) (Z0 : n0 ≤ h0.size) :
    MetFree l (⟨"com/example/geogauge/geogauge/SeededRandomNextLongPinLaw", "unxorshift", "(JI)J"⟩ : MethodName) (head1 (Jvm.Cond.code (⟨"com/example/geogauge/geogauge/SeededRandomNextLongPinLaw", "unxorshift", "(JI)J"⟩ : MethodName) method_4_code 3 (some .long) :: ws) ({ frames := 0, cells := 0, slots := 0, locals := 0 } : Room)) (fun a U => a = #[(.long q1), (.int p2)] ∧ Z.Warmed39 U.vm ∧ U.heap = h0) (fun _ _ _ _ _ => True) (fun _ U o U' => ∃ v L, o = .returned v ∧ Q5 Z q1 p2 h0 n0 v U'.heap L ∧ FrameEnd U o U' L ({ frames := 0, cells := 0, slots := 0, locals := 0 } : Room).cells ({ frames := 0, cells := 0, slots := 0, locals := 0 } : Room).slots) := by
  refine MetFree.of_bodySF (plainFor_of_name pn_SeededRandomNextLongPinLaw) hisR ?_
  intro p e s m args below meth c s₁ Bd hml0 hP hK
  obtain ⟨rfl, hZ, hh⟩ := hP
  have hx := Bd.exec
  have hby := Bd.bytes
  have hml : c.maxLocals = 3 := hml0
  have hown : s.vm.findClass "com/example/geogauge/geogauge/SeededRandomNextLongPinLaw" = some m.cls := findClass_of_methodNamed Bd.named
  have hnm := (name_of_methodNamed Bd.named Bd.method).1
  have X0 : Stand p l e ({ frames := 0, cells := 0, slots := 0, locals := 0 } : Room) s m #[(.long q1), (.int p2)] below meth c s₁ [] 0 0 := Stand.of_body Bd
  have e0 : s₁.heap = h0 := by rw [← hh, Bd.state]; rfl
  have N0 := Fr.nil n0
  refine Gd.out (Gd.st (fun t k => castTop (ef_5 m q1 p2) k) ?_)
  show Gd p.tables e below _ (s₁.setTop (mkF m 0 #[.val (.long q1), .second, .val (.int p2)] []))
  refine Gd.st (fun _ k => XS.lloadN X0.here hx rfl (hb hby d5_0) rfl k) ?_
  show Gd p.tables e below _ (s₁.setTop (mkF m 1 #[.val (.long q1), .second, .val (.int p2)] [(.long q1)]))
  refine Gd.st (fun _ k => XS.lloadN X0.here hx rfl (hb hby d5_1) rfl k) ?_
  show Gd p.tables e below _ (s₁.setTop (mkF m 2 #[.val (.long q1), .second, .val (.int p2)] [(.long q1), (.long q1)]))
  refine Gd.st (fun _ k => XS.iloadN X0.here hx rfl (hb hby d5_2) rfl k) ?_
  show Gd p.tables e below _ (s₁.setTop (mkF m 3 #[.val (.long q1), .second, .val (.int p2)] [(.int p2), (.long q1), (.long q1)]))
  refine Gd.st (fun _ k => XS.lushr X0.here hx rfl (hb hby d5_3) rfl k) ?_
  show Gd p.tables e below _ (s₁.setTop (mkF m 4 #[.val (.long q1), .second, .val (.int p2)] [(.long ((q1.toUInt64 >>> (p2 &&& 0x3f).toInt64.toUInt64).toInt64)), (.long q1)]))
  refine Gd.st (fun _ k => XS.lxor X0.here hx rfl (hb hby d5_4) rfl k) ?_
  show Gd p.tables e below _ (s₁.setTop (mkF m 5 #[.val (.long q1), .second, .val (.int p2)] [(.long (q1 ^^^ ((q1.toUInt64 >>> (p2 &&& 0x3f).toInt64.toUInt64).toInt64)))]))
  refine Gd.st (fun _ k => XS.lloadN X0.here hx rfl (hb hby d5_5) rfl k) ?_
  show Gd p.tables e below _ (s₁.setTop (mkF m 6 #[.val (.long q1), .second, .val (.int p2)] [(.long q1), (.long (q1 ^^^ ((q1.toUInt64 >>> (p2 &&& 0x3f).toInt64.toUInt64).toInt64)))]))
  refine Gd.st (fun _ k => XS.iconst X0.here hx rfl (hb hby d5_6) k) ?_
  show Gd p.tables e below _ (s₁.setTop (mkF m 7 #[.val (.long q1), .second, .val (.int p2)] [(.int (2 : Int32)), (.long q1), (.long (q1 ^^^ ((q1.toUInt64 >>> (p2 &&& 0x3f).toInt64.toUInt64).toInt64)))]))
  refine Gd.st (fun _ k => XS.iloadN X0.here hx rfl (hb hby d5_7) rfl k) ?_
  show Gd p.tables e below _ (s₁.setTop (mkF m 8 #[.val (.long q1), .second, .val (.int p2)] [(.int p2), (.int (2 : Int32)), (.long q1), (.long (q1 ^^^ ((q1.toUInt64 >>> (p2 &&& 0x3f).toInt64.toUInt64).toInt64)))]))
  refine Gd.st (fun _ k => XS.imul X0.here hx rfl (hb hby d5_8) rfl k) ?_
  show Gd p.tables e below _ (s₁.setTop (mkF m 9 #[.val (.long q1), .second, .val (.int p2)] [(.int ((2 : Int32) * p2)), (.long q1), (.long (q1 ^^^ ((q1.toUInt64 >>> (p2 &&& 0x3f).toInt64.toUInt64).toInt64)))]))
  refine Gd.st (fun _ k => XS.lushr X0.here hx rfl (hb hby d5_9) rfl k) ?_
  show Gd p.tables e below _ (s₁.setTop (mkF m 10 #[.val (.long q1), .second, .val (.int p2)] [(.long ((q1.toUInt64 >>> (((2 : Int32) * p2) &&& 0x3f).toInt64.toUInt64).toInt64)), (.long (q1 ^^^ ((q1.toUInt64 >>> (p2 &&& 0x3f).toInt64.toUInt64).toInt64)))]))
  refine Gd.st (fun _ k => XS.lxor X0.here hx rfl (hb hby d5_10) rfl k) ?_
  show Gd p.tables e below _ (s₁.setTop (mkF m 11 #[.val (.long q1), .second, .val (.int p2)] [(.long (own_ux q1 p2))]))
  obtain ⟨fs, hr, hrun, hended, hW, hsame⟩ := X0.leave (v := some (.long (own_ux q1 p2))) (fun h => by rw [Bd.returns] at h; cases h) Bd.notSynchronized
  refine Gd.mk (o := .returned (some (.long (own_ux q1 p2)))) (X0.lreturnOut hx Bd.returns (hb hby d5_11) hr) ⟨hrun, hended, _, _, rfl, ?_, ⟨_, rfl⟩, hW, hsame.mono (by decide) (by decide)⟩
  show Q5 Z q1 p2 h0 n0 _ s₁.heap _
  rw [e0]
  exact ⟨rfl, N0, rfl⟩
theorem d6_0 : decode method_3_code 0 = .ok (.lload_n 0, 1) := by decide +kernel
theorem d6_1 : decode method_3_code 1 = .ok (.lstore_n 2, 1) := by decide +kernel
theorem d6_2 : decode method_3_code 2 = .ok (.lload_n 2, 1) := by decide +kernel
theorem d6_3 : decode method_3_code 3 = .ok (.ldc2_w 24, 3) := by decide +kernel
theorem d6_6 : decode method_3_code 6 = .ok (.lload_n 0, 1) := by decide +kernel
theorem d6_7 : decode method_3_code 7 = .ok (.lload_n 2, 1) := by decide +kernel
theorem d6_8 : decode method_3_code 8 = .ok (.lmul, 1) := by decide +kernel
theorem d6_9 : decode method_3_code 9 = .ok (.lsub, 1) := by decide +kernel
theorem d6_10 : decode method_3_code 10 = .ok (.lmul, 1) := by decide +kernel
theorem d6_11 : decode method_3_code 11 = .ok (.lstore_n 2, 1) := by decide +kernel
theorem d6_12 : decode method_3_code 12 = .ok (.lload_n 2, 1) := by decide +kernel
theorem d6_13 : decode method_3_code 13 = .ok (.ldc2_w 24, 3) := by decide +kernel
theorem d6_16 : decode method_3_code 16 = .ok (.lload_n 0, 1) := by decide +kernel
theorem d6_17 : decode method_3_code 17 = .ok (.lload_n 2, 1) := by decide +kernel
theorem d6_18 : decode method_3_code 18 = .ok (.lmul, 1) := by decide +kernel
theorem d6_19 : decode method_3_code 19 = .ok (.lsub, 1) := by decide +kernel
theorem d6_20 : decode method_3_code 20 = .ok (.lmul, 1) := by decide +kernel
theorem d6_21 : decode method_3_code 21 = .ok (.lstore_n 2, 1) := by decide +kernel
theorem d6_22 : decode method_3_code 22 = .ok (.lload_n 2, 1) := by decide +kernel
theorem d6_23 : decode method_3_code 23 = .ok (.ldc2_w 24, 3) := by decide +kernel
theorem d6_26 : decode method_3_code 26 = .ok (.lload_n 0, 1) := by decide +kernel
theorem d6_27 : decode method_3_code 27 = .ok (.lload_n 2, 1) := by decide +kernel
theorem d6_28 : decode method_3_code 28 = .ok (.lmul, 1) := by decide +kernel
theorem d6_29 : decode method_3_code 29 = .ok (.lsub, 1) := by decide +kernel
theorem d6_30 : decode method_3_code 30 = .ok (.lmul, 1) := by decide +kernel
theorem d6_31 : decode method_3_code 31 = .ok (.lstore_n 2, 1) := by decide +kernel
theorem d6_32 : decode method_3_code 32 = .ok (.lload_n 2, 1) := by decide +kernel
theorem d6_33 : decode method_3_code 33 = .ok (.ldc2_w 24, 3) := by decide +kernel
theorem d6_36 : decode method_3_code 36 = .ok (.lload_n 0, 1) := by decide +kernel
theorem d6_37 : decode method_3_code 37 = .ok (.lload_n 2, 1) := by decide +kernel
theorem d6_38 : decode method_3_code 38 = .ok (.lmul, 1) := by decide +kernel
theorem d6_39 : decode method_3_code 39 = .ok (.lsub, 1) := by decide +kernel
theorem d6_40 : decode method_3_code 40 = .ok (.lmul, 1) := by decide +kernel
theorem d6_41 : decode method_3_code 41 = .ok (.lstore_n 2, 1) := by decide +kernel
theorem d6_42 : decode method_3_code 42 = .ok (.lload_n 2, 1) := by decide +kernel
theorem d6_43 : decode method_3_code 43 = .ok (.ldc2_w 24, 3) := by decide +kernel
theorem d6_46 : decode method_3_code 46 = .ok (.lload_n 0, 1) := by decide +kernel
theorem d6_47 : decode method_3_code 47 = .ok (.lload_n 2, 1) := by decide +kernel
theorem d6_48 : decode method_3_code 48 = .ok (.lmul, 1) := by decide +kernel
theorem d6_49 : decode method_3_code 49 = .ok (.lsub, 1) := by decide +kernel
theorem d6_50 : decode method_3_code 50 = .ok (.lmul, 1) := by decide +kernel
theorem d6_51 : decode method_3_code 51 = .ok (.lstore_n 2, 1) := by decide +kernel
theorem d6_52 : decode method_3_code 52 = .ok (.lload_n 2, 1) := by decide +kernel
theorem d6_53 : decode method_3_code 53 = .ok (.lreturn, 1) := by decide +kernel
theorem ef_6 (m : MethodId) (x0 : Int64) : entryFrame m #[(.long x0)] 4 = mkF m 0 #[.val (.long x0), .second, .unset, .unset] [] := by first | (simp [entryFrame, mkF, argsToLocals, Value.category]; done) | rfl
def Q6 (Z : State) (q1 : Int64) (h0 : Heap) (n0 : Nat) (v : Option Value) (h : Heap) (L : List Loc) : Prop := v = some (.long (own_inv q1)) ∧ Fr n0 L ∧ h = h0
set_option maxRecDepth 65536 in
set_option maxHeartbeats 40000000 in
theorem rm6 (l : Launch) (Z : State) (a0 : Array Value) (hw : ∀ d ∈ tables_1, d.before a0 Z = true) (ws : List Jvm.Cond) (q1 : Int64) (h0 : Heap) (n0 : Nat) (Z0 : n0 ≤ h0.size) :
    MetFree l (⟨"com/example/geogauge/geogauge/SeededRandomNextLongPinLaw", "inverse", "(J)J"⟩ : MethodName) (head1 (Jvm.Cond.code (⟨"com/example/geogauge/geogauge/SeededRandomNextLongPinLaw", "inverse", "(J)J"⟩ : MethodName) method_3_code 4 (some .long) :: ws) ({ frames := 0, cells := 0, slots := 0, locals := 0 } : Room)) (fun a U => a = #[(.long q1)] ∧ Z.Warmed39 U.vm ∧ U.heap = h0) (fun _ _ _ _ _ => True) (fun _ U o U' => ∃ v L, o = .returned v ∧ Q6 Z q1 h0 n0 v U'.heap L ∧ FrameEnd U o U' L ({ frames := 0, cells := 0, slots := 0, locals := 0 } : Room).cells ({ frames := 0, cells := 0, slots := 0, locals := 0 } : Room).slots) := by
  refine MetFree.of_bodySF (plainFor_of_name pn_SeededRandomNextLongPinLaw) hisR ?_
  intro p e s m args below meth c s₁ Bd hml0 hP hK
  obtain ⟨rfl, hZ, hh⟩ := hP
  have hx := Bd.exec
  have hby := Bd.bytes
  have hml : c.maxLocals = 4 := hml0
  have hown : s.vm.findClass "com/example/geogauge/geogauge/SeededRandomNextLongPinLaw" = some m.cls := findClass_of_methodNamed Bd.named
  have hnm := (name_of_methodNamed Bd.named Bd.method).1
  have X0 : Stand p l e ({ frames := 0, cells := 0, slots := 0, locals := 0 } : Room) s m #[(.long q1)] below meth c s₁ [] 0 0 := Stand.of_body Bd
  have e0 : s₁.heap = h0 := by rw [← hh, Bd.state]; rfl
  have N0 := Fr.nil n0
  refine Gd.out (Gd.st (fun t k => castTop (ef_6 m q1) k) ?_)
  show Gd p.tables e below _ (s₁.setTop (mkF m 0 #[.val (.long q1), .second, .unset, .unset] []))
  refine Gd.st (fun _ k => XS.lloadN X0.here hx rfl (hb hby d6_0) rfl k) ?_
  show Gd p.tables e below _ (s₁.setTop (mkF m 1 #[.val (.long q1), .second, .unset, .unset] [(.long q1)]))
  refine Gd.st (fun _ k => XS.lstoreN X0.here hx rfl (hb hby d6_1) rfl (l' := #[.val (.long q1), .second, .val (.long q1), .second]) rfl k) ?_
  show Gd p.tables e below _ (s₁.setTop (mkF m 2 #[.val (.long q1), .second, .val (.long q1), .second] []))
  refine Gd.st (fun _ k => XS.lloadN X0.here hx rfl (hb hby d6_2) rfl k) ?_
  show Gd p.tables e below _ (s₁.setTop (mkF m 3 #[.val (.long q1), .second, .val (.long q1), .second] [(.long q1)]))
  refine Gd.st (fun _ k => X0.ldc2Long hx hown (mvT hZ (hw _ (List.mem_of_getElem? (i := 31) rfl))) (g := (mkF m 3 #[.val (.long q1), .second, .val (.long q1), .second] [(.long q1)])) rfl (hb hby d6_3) _ k) ?_
  show Gd p.tables e below _ (s₁.setTop (mkF m 6 #[.val (.long q1), .second, .val (.long q1), .second] [(.long (2 : Int64)), (.long q1)]))
  refine Gd.st (fun _ k => XS.lloadN X0.here hx rfl (hb hby d6_6) rfl k) ?_
  show Gd p.tables e below _ (s₁.setTop (mkF m 7 #[.val (.long q1), .second, .val (.long q1), .second] [(.long q1), (.long (2 : Int64)), (.long q1)]))
  refine Gd.st (fun _ k => XS.lloadN X0.here hx rfl (hb hby d6_7) rfl k) ?_
  show Gd p.tables e below _ (s₁.setTop (mkF m 8 #[.val (.long q1), .second, .val (.long q1), .second] [(.long q1), (.long q1), (.long (2 : Int64)), (.long q1)]))
  refine Gd.st (fun _ k => XS.lmul X0.here hx rfl (hb hby d6_8) rfl k) ?_
  show Gd p.tables e below _ (s₁.setTop (mkF m 9 #[.val (.long q1), .second, .val (.long q1), .second] [(.long (q1 * q1)), (.long (2 : Int64)), (.long q1)]))
  refine Gd.st (fun _ k => XS.lsub X0.here hx rfl (hb hby d6_9) rfl k) ?_
  show Gd p.tables e below _ (s₁.setTop (mkF m 10 #[.val (.long q1), .second, .val (.long q1), .second] [(.long ((2 : Int64) - (q1 * q1))), (.long q1)]))
  refine Gd.st (fun _ k => XS.lmul X0.here hx rfl (hb hby d6_10) rfl k) ?_
  show Gd p.tables e below _ (s₁.setTop (mkF m 11 #[.val (.long q1), .second, .val (.long q1), .second] [(.long (own_nt q1 q1))]))
  refine Gd.st (fun _ k => XS.lstoreN X0.here hx rfl (hb hby d6_11) rfl (l' := #[.val (.long q1), .second, .val (.long (own_nt q1 q1)), .second]) rfl k) ?_
  show Gd p.tables e below _ (s₁.setTop (mkF m 12 #[.val (.long q1), .second, .val (.long (own_nt q1 q1)), .second] []))
  refine Gd.st (fun _ k => XS.lloadN X0.here hx rfl (hb hby d6_12) rfl k) ?_
  show Gd p.tables e below _ (s₁.setTop (mkF m 13 #[.val (.long q1), .second, .val (.long (own_nt q1 q1)), .second] [(.long (own_nt q1 q1))]))
  refine Gd.st (fun _ k => X0.ldc2Long hx hown (mvT hZ (hw _ (List.mem_of_getElem? (i := 31) rfl))) (g := (mkF m 13 #[.val (.long q1), .second, .val (.long (own_nt q1 q1)), .second] [(.long (own_nt q1 q1))])) rfl (hb hby d6_13) _ k) ?_
  show Gd p.tables e below _ (s₁.setTop (mkF m 16 #[.val (.long q1), .second, .val (.long (own_nt q1 q1)), .second] [(.long (2 : Int64)), (.long (own_nt q1 q1))]))
  refine Gd.st (fun _ k => XS.lloadN X0.here hx rfl (hb hby d6_16) rfl k) ?_
  show Gd p.tables e below _ (s₁.setTop (mkF m 17 #[.val (.long q1), .second, .val (.long (own_nt q1 q1)), .second] [(.long q1), (.long (2 : Int64)), (.long (own_nt q1 q1))]))
  refine Gd.st (fun _ k => XS.lloadN X0.here hx rfl (hb hby d6_17) rfl k) ?_
  show Gd p.tables e below _ (s₁.setTop (mkF m 18 #[.val (.long q1), .second, .val (.long (own_nt q1 q1)), .second] [(.long (own_nt q1 q1)), (.long q1), (.long (2 : Int64)), (.long (own_nt q1 q1))]))
  refine Gd.st (fun _ k => XS.lmul X0.here hx rfl (hb hby d6_18) rfl k) ?_
  show Gd p.tables e below _ (s₁.setTop (mkF m 19 #[.val (.long q1), .second, .val (.long (own_nt q1 q1)), .second] [(.long (q1 * (own_nt q1 q1))), (.long (2 : Int64)), (.long (own_nt q1 q1))]))
  refine Gd.st (fun _ k => XS.lsub X0.here hx rfl (hb hby d6_19) rfl k) ?_
  show Gd p.tables e below _ (s₁.setTop (mkF m 20 #[.val (.long q1), .second, .val (.long (own_nt q1 q1)), .second] [(.long ((2 : Int64) - (q1 * (own_nt q1 q1)))), (.long (own_nt q1 q1))]))
  refine Gd.st (fun _ k => XS.lmul X0.here hx rfl (hb hby d6_20) rfl k) ?_
  show Gd p.tables e below _ (s₁.setTop (mkF m 21 #[.val (.long q1), .second, .val (.long (own_nt q1 q1)), .second] [(.long (own_nt q1 (own_nt q1 q1)))]))
  refine Gd.st (fun _ k => XS.lstoreN X0.here hx rfl (hb hby d6_21) rfl (l' := #[.val (.long q1), .second, .val (.long (own_nt q1 (own_nt q1 q1))), .second]) rfl k) ?_
  show Gd p.tables e below _ (s₁.setTop (mkF m 22 #[.val (.long q1), .second, .val (.long (own_nt q1 (own_nt q1 q1))), .second] []))
  refine Gd.st (fun _ k => XS.lloadN X0.here hx rfl (hb hby d6_22) rfl k) ?_
  show Gd p.tables e below _ (s₁.setTop (mkF m 23 #[.val (.long q1), .second, .val (.long (own_nt q1 (own_nt q1 q1))), .second] [(.long (own_nt q1 (own_nt q1 q1)))]))
  refine Gd.st (fun _ k => X0.ldc2Long hx hown (mvT hZ (hw _ (List.mem_of_getElem? (i := 31) rfl))) (g := (mkF m 23 #[.val (.long q1), .second, .val (.long (own_nt q1 (own_nt q1 q1))), .second] [(.long (own_nt q1 (own_nt q1 q1)))])) rfl (hb hby d6_23) _ k) ?_
  show Gd p.tables e below _ (s₁.setTop (mkF m 26 #[.val (.long q1), .second, .val (.long (own_nt q1 (own_nt q1 q1))), .second] [(.long (2 : Int64)), (.long (own_nt q1 (own_nt q1 q1)))]))
  refine Gd.st (fun _ k => XS.lloadN X0.here hx rfl (hb hby d6_26) rfl k) ?_
  show Gd p.tables e below _ (s₁.setTop (mkF m 27 #[.val (.long q1), .second, .val (.long (own_nt q1 (own_nt q1 q1))), .second] [(.long q1), (.long (2 : Int64)), (.long (own_nt q1 (own_nt q1 q1)))]))
  refine Gd.st (fun _ k => XS.lloadN X0.here hx rfl (hb hby d6_27) rfl k) ?_
  show Gd p.tables e below _ (s₁.setTop (mkF m 28 #[.val (.long q1), .second, .val (.long (own_nt q1 (own_nt q1 q1))), .second] [(.long (own_nt q1 (own_nt q1 q1))), (.long q1), (.long (2 : Int64)), (.long (own_nt q1 (own_nt q1 q1)))]))
  refine Gd.st (fun _ k => XS.lmul X0.here hx rfl (hb hby d6_28) rfl k) ?_
  show Gd p.tables e below _ (s₁.setTop (mkF m 29 #[.val (.long q1), .second, .val (.long (own_nt q1 (own_nt q1 q1))), .second] [(.long (q1 * (own_nt q1 (own_nt q1 q1)))), (.long (2 : Int64)), (.long (own_nt q1 (own_nt q1 q1)))]))
  refine Gd.st (fun _ k => XS.lsub X0.here hx rfl (hb hby d6_29) rfl k) ?_
  show Gd p.tables e below _ (s₁.setTop (mkF m 30 #[.val (.long q1), .second, .val (.long (own_nt q1 (own_nt q1 q1))), .second] [(.long ((2 : Int64) - (q1 * (own_nt q1 (own_nt q1 q1))))), (.long (own_nt q1 (own_nt q1 q1)))]))
  refine Gd.st (fun _ k => XS.lmul X0.here hx rfl (hb hby d6_30) rfl k) ?_
  show Gd p.tables e below _ (s₁.setTop (mkF m 31 #[.val (.long q1), .second, .val (.long (own_nt q1 (own_nt q1 q1))), .second] [(.long (own_nt q1 (own_nt q1 (own_nt q1 q1))))]))
  refine Gd.st (fun _ k => XS.lstoreN X0.here hx rfl (hb hby d6_31) rfl (l' := #[.val (.long q1), .second, .val (.long (own_nt q1 (own_nt q1 (own_nt q1 q1)))), .second]) rfl k) ?_
  show Gd p.tables e below _ (s₁.setTop (mkF m 32 #[.val (.long q1), .second, .val (.long (own_nt q1 (own_nt q1 (own_nt q1 q1)))), .second] []))
  refine Gd.st (fun _ k => XS.lloadN X0.here hx rfl (hb hby d6_32) rfl k) ?_
  show Gd p.tables e below _ (s₁.setTop (mkF m 33 #[.val (.long q1), .second, .val (.long (own_nt q1 (own_nt q1 (own_nt q1 q1)))), .second] [(.long (own_nt q1 (own_nt q1 (own_nt q1 q1))))]))
  refine Gd.st (fun _ k => X0.ldc2Long hx hown (mvT hZ (hw _ (List.mem_of_getElem? (i := 31) rfl))) (g := (mkF m 33 #[.val (.long q1), .second, .val (.long (own_nt q1 (own_nt q1 (own_nt q1 q1)))), .second] [(.long (own_nt q1 (own_nt q1 (own_nt q1 q1))))])) rfl (hb hby d6_33) _ k) ?_
  show Gd p.tables e below _ (s₁.setTop (mkF m 36 #[.val (.long q1), .second, .val (.long (own_nt q1 (own_nt q1 (own_nt q1 q1)))), .second] [(.long (2 : Int64)), (.long (own_nt q1 (own_nt q1 (own_nt q1 q1))))]))
  refine Gd.st (fun _ k => XS.lloadN X0.here hx rfl (hb hby d6_36) rfl k) ?_
  show Gd p.tables e below _ (s₁.setTop (mkF m 37 #[.val (.long q1), .second, .val (.long (own_nt q1 (own_nt q1 (own_nt q1 q1)))), .second] [(.long q1), (.long (2 : Int64)), (.long (own_nt q1 (own_nt q1 (own_nt q1 q1))))]))
  refine Gd.st (fun _ k => XS.lloadN X0.here hx rfl (hb hby d6_37) rfl k) ?_
  show Gd p.tables e below _ (s₁.setTop (mkF m 38 #[.val (.long q1), .second, .val (.long (own_nt q1 (own_nt q1 (own_nt q1 q1)))), .second] [(.long (own_nt q1 (own_nt q1 (own_nt q1 q1)))), (.long q1), (.long (2 : Int64)), (.long (own_nt q1 (own_nt q1 (own_nt q1 q1))))]))
  refine Gd.st (fun _ k => XS.lmul X0.here hx rfl (hb hby d6_38) rfl k) ?_
  show Gd p.tables e below _ (s₁.setTop (mkF m 39 #[.val (.long q1), .second, .val (.long (own_nt q1 (own_nt q1 (own_nt q1 q1)))), .second] [(.long (q1 * (own_nt q1 (own_nt q1 (own_nt q1 q1))))), (.long (2 : Int64)), (.long (own_nt q1 (own_nt q1 (own_nt q1 q1))))]))
  refine Gd.st (fun _ k => XS.lsub X0.here hx rfl (hb hby d6_39) rfl k) ?_
  show Gd p.tables e below _ (s₁.setTop (mkF m 40 #[.val (.long q1), .second, .val (.long (own_nt q1 (own_nt q1 (own_nt q1 q1)))), .second] [(.long ((2 : Int64) - (q1 * (own_nt q1 (own_nt q1 (own_nt q1 q1)))))), (.long (own_nt q1 (own_nt q1 (own_nt q1 q1))))]))
  refine Gd.st (fun _ k => XS.lmul X0.here hx rfl (hb hby d6_40) rfl k) ?_
  show Gd p.tables e below _ (s₁.setTop (mkF m 41 #[.val (.long q1), .second, .val (.long (own_nt q1 (own_nt q1 (own_nt q1 q1)))), .second] [(.long (own_nt q1 (own_nt q1 (own_nt q1 (own_nt q1 q1)))))]))
  refine Gd.st (fun _ k => XS.lstoreN X0.here hx rfl (hb hby d6_41) rfl (l' := #[.val (.long q1), .second, .val (.long (own_nt q1 (own_nt q1 (own_nt q1 (own_nt q1 q1))))), .second]) rfl k) ?_
  show Gd p.tables e below _ (s₁.setTop (mkF m 42 #[.val (.long q1), .second, .val (.long (own_nt q1 (own_nt q1 (own_nt q1 (own_nt q1 q1))))), .second] []))
  refine Gd.st (fun _ k => XS.lloadN X0.here hx rfl (hb hby d6_42) rfl k) ?_
  show Gd p.tables e below _ (s₁.setTop (mkF m 43 #[.val (.long q1), .second, .val (.long (own_nt q1 (own_nt q1 (own_nt q1 (own_nt q1 q1))))), .second] [(.long (own_nt q1 (own_nt q1 (own_nt q1 (own_nt q1 q1)))))]))
  refine Gd.st (fun _ k => X0.ldc2Long hx hown (mvT hZ (hw _ (List.mem_of_getElem? (i := 31) rfl))) (g := (mkF m 43 #[.val (.long q1), .second, .val (.long (own_nt q1 (own_nt q1 (own_nt q1 (own_nt q1 q1))))), .second] [(.long (own_nt q1 (own_nt q1 (own_nt q1 (own_nt q1 q1)))))])) rfl (hb hby d6_43) _ k) ?_
  show Gd p.tables e below _ (s₁.setTop (mkF m 46 #[.val (.long q1), .second, .val (.long (own_nt q1 (own_nt q1 (own_nt q1 (own_nt q1 q1))))), .second] [(.long (2 : Int64)), (.long (own_nt q1 (own_nt q1 (own_nt q1 (own_nt q1 q1)))))]))
  refine Gd.st (fun _ k => XS.lloadN X0.here hx rfl (hb hby d6_46) rfl k) ?_
  show Gd p.tables e below _ (s₁.setTop (mkF m 47 #[.val (.long q1), .second, .val (.long (own_nt q1 (own_nt q1 (own_nt q1 (own_nt q1 q1))))), .second] [(.long q1), (.long (2 : Int64)), (.long (own_nt q1 (own_nt q1 (own_nt q1 (own_nt q1 q1)))))]))
  refine Gd.st (fun _ k => XS.lloadN X0.here hx rfl (hb hby d6_47) rfl k) ?_
  show Gd p.tables e below _ (s₁.setTop (mkF m 48 #[.val (.long q1), .second, .val (.long (own_nt q1 (own_nt q1 (own_nt q1 (own_nt q1 q1))))), .second] [(.long (own_nt q1 (own_nt q1 (own_nt q1 (own_nt q1 q1))))), (.long q1), (.long (2 : Int64)), (.long (own_nt q1 (own_nt q1 (own_nt q1 (own_nt q1 q1)))))]))
  refine Gd.st (fun _ k => XS.lmul X0.here hx rfl (hb hby d6_48) rfl k) ?_
  show Gd p.tables e below _ (s₁.setTop (mkF m 49 #[.val (.long q1), .second, .val (.long (own_nt q1 (own_nt q1 (own_nt q1 (own_nt q1 q1))))), .second] [(.long (q1 * (own_nt q1 (own_nt q1 (own_nt q1 (own_nt q1 q1)))))), (.long (2 : Int64)), (.long (own_nt q1 (own_nt q1 (own_nt q1 (own_nt q1 q1)))))]))
  refine Gd.st (fun _ k => XS.lsub X0.here hx rfl (hb hby d6_49) rfl k) ?_
  show Gd p.tables e below _ (s₁.setTop (mkF m 50 #[.val (.long q1), .second, .val (.long (own_nt q1 (own_nt q1 (own_nt q1 (own_nt q1 q1))))), .second] [(.long ((2 : Int64) - (q1 * (own_nt q1 (own_nt q1 (own_nt q1 (own_nt q1 q1))))))), (.long (own_nt q1 (own_nt q1 (own_nt q1 (own_nt q1 q1)))))]))
  refine Gd.st (fun _ k => XS.lmul X0.here hx rfl (hb hby d6_50) rfl k) ?_
  show Gd p.tables e below _ (s₁.setTop (mkF m 51 #[.val (.long q1), .second, .val (.long (own_nt q1 (own_nt q1 (own_nt q1 (own_nt q1 q1))))), .second] [(.long (own_inv q1))]))
  refine Gd.st (fun _ k => XS.lstoreN X0.here hx rfl (hb hby d6_51) rfl (l' := #[.val (.long q1), .second, .val (.long (own_inv q1)), .second]) rfl k) ?_
  show Gd p.tables e below _ (s₁.setTop (mkF m 52 #[.val (.long q1), .second, .val (.long (own_inv q1)), .second] []))
  refine Gd.st (fun _ k => XS.lloadN X0.here hx rfl (hb hby d6_52) rfl k) ?_
  show Gd p.tables e below _ (s₁.setTop (mkF m 53 #[.val (.long q1), .second, .val (.long (own_inv q1)), .second] [(.long (own_inv q1))]))
  obtain ⟨fs, hr, hrun, hended, hW, hsame⟩ := X0.leave (v := some (.long (own_inv q1))) (fun h => by rw [Bd.returns] at h; cases h) Bd.notSynchronized
  refine Gd.mk (o := .returned (some (.long (own_inv q1)))) (X0.lreturnOut hx Bd.returns (hb hby d6_53) hr) ⟨hrun, hended, _, _, rfl, ?_, ⟨_, rfl⟩, hW, hsame.mono (by decide) (by decide)⟩
  show Q6 Z q1 h0 n0 _ s₁.heap _
  rw [e0]
  exact ⟨rfl, N0, rfl⟩
theorem d4_0 : decode method_5_code 0 = .ok (.lload_n 0, 1) := by decide +kernel
theorem d4_1 : decode method_5_code 1 = .ok (.bipush 31, 2) := by decide +kernel
theorem d4_3 : decode method_5_code 3 = .ok (.invokestatic 26, 3) := by decide +kernel
theorem d4_6 : decode method_5_code 6 = .ok (.lstore_n 2, 1) := by decide +kernel
theorem d4_7 : decode method_5_code 7 = .ok (.lload_n 2, 1) := by decide +kernel
theorem d4_8 : decode method_5_code 8 = .ok (.ldc2_w 30, 3) := by decide +kernel
theorem d4_11 : decode method_5_code 11 = .ok (.invokestatic 32, 3) := by decide +kernel
theorem d4_14 : decode method_5_code 14 = .ok (.lmul, 1) := by decide +kernel
theorem d4_15 : decode method_5_code 15 = .ok (.lstore 4, 2) := by decide +kernel
theorem d4_17 : decode method_5_code 17 = .ok (.lload 4, 2) := by decide +kernel
theorem d4_19 : decode method_5_code 19 = .ok (.bipush 27, 2) := by decide +kernel
theorem d4_21 : decode method_5_code 21 = .ok (.invokestatic 26, 3) := by decide +kernel
theorem d4_24 : decode method_5_code 24 = .ok (.lstore 6, 2) := by decide +kernel
theorem d4_26 : decode method_5_code 26 = .ok (.lload 6, 2) := by decide +kernel
theorem d4_28 : decode method_5_code 28 = .ok (.ldc2_w 35, 3) := by decide +kernel
theorem d4_31 : decode method_5_code 31 = .ok (.invokestatic 32, 3) := by decide +kernel
theorem d4_34 : decode method_5_code 34 = .ok (.lmul, 1) := by decide +kernel
theorem d4_35 : decode method_5_code 35 = .ok (.lstore 8, 2) := by decide +kernel
theorem d4_37 : decode method_5_code 37 = .ok (.lload 8, 2) := by decide +kernel
theorem d4_39 : decode method_5_code 39 = .ok (.bipush 30, 2) := by decide +kernel
theorem d4_41 : decode method_5_code 41 = .ok (.invokestatic 26, 3) := by decide +kernel
theorem d4_44 : decode method_5_code 44 = .ok (.lreturn, 1) := by decide +kernel
theorem ef_4 (m : MethodId) (x0 : Int64) : entryFrame m #[(.long x0)] 10 = mkF m 0 #[.val (.long x0), .second, .unset, .unset, .unset, .unset, .unset, .unset, .unset, .unset] [] := by first | (simp [entryFrame, mkF, argsToLocals, Value.category]; done) | rfl
theorem pd__JI_J_5 : parseMethodDescriptor "(JI)J" = some ⟨[.long, .int], some .long⟩ := by decide +kernel
theorem pd__J_J_4 : parseMethodDescriptor "(J)J" = some ⟨[.long], some .long⟩ := by decide +kernel
def Q4 (Z : State) (q1 : Int64) (h0 : Heap) (n0 : Nat) (v : Option Value) (h : Heap) (L : List Loc) : Prop := v = some (.long (own_unmix q1)) ∧ Fr n0 L ∧ h = h0
set_option maxRecDepth 65536 in
set_option maxHeartbeats 40000000 in
theorem rm4 (l : Launch) (Z : State) (a0 : Array Value) (hw : ∀ d ∈ tables_1, d.before a0 Z = true) (ws : List Jvm.Cond) (q1 : Int64) (h0 : Heap) (n0 : Nat) (Z0 : n0 ≤ h0.size) :
    MetFree l (⟨"com/example/geogauge/geogauge/SeededRandomNextLongPinLaw", "unmix", "(J)J"⟩ : MethodName) (head1 (Jvm.Cond.code (⟨"com/example/geogauge/geogauge/SeededRandomNextLongPinLaw", "unmix", "(J)J"⟩ : MethodName) method_5_code 10 (some .long) :: ws) ({ frames := 1, cells := 0, slots := 0, locals := 17 } : Room)) (fun a U => a = #[(.long q1)] ∧ Z.Warmed39 U.vm ∧ U.heap = h0) (fun _ _ _ _ _ => True) (fun _ U o U' => ∃ v L, o = .returned v ∧ Q4 Z q1 h0 n0 v U'.heap L ∧ FrameEnd U o U' L ({ frames := 1, cells := 0, slots := 0, locals := 17 } : Room).cells ({ frames := 1, cells := 0, slots := 0, locals := 17 } : Room).slots) := by
  refine MetFree.of_bodySF (plainFor_of_name pn_SeededRandomNextLongPinLaw) hisR ?_
  intro p e s m args below meth c s₁ Bd hml0 hP hK
  obtain ⟨rfl, hZ, hh⟩ := hP
  have hx := Bd.exec
  have hby := Bd.bytes
  have hml : c.maxLocals = 10 := hml0
  have hown : s.vm.findClass "com/example/geogauge/geogauge/SeededRandomNextLongPinLaw" = some m.cls := findClass_of_methodNamed Bd.named
  have hnm := (name_of_methodNamed Bd.named Bd.method).1
  have X0 : Stand p l e ({ frames := 1, cells := 0, slots := 0, locals := 17 } : Room) s m #[(.long q1)] below meth c s₁ [] 0 0 := Stand.of_body Bd
  have e0 : s₁.heap = h0 := by rw [← hh, Bd.state]; rfl
  have N0 := Fr.nil n0
  refine Gd.out (Gd.st (fun t k => castTop (ef_4 m q1) k) ?_)
  show Gd p.tables e below _ (s₁.setTop (mkF m 0 #[.val (.long q1), .second, .unset, .unset, .unset, .unset, .unset, .unset, .unset, .unset] []))
  refine Gd.st (fun _ k => XS.lloadN X0.here hx rfl (hb hby d4_0) rfl k) ?_
  show Gd p.tables e below _ (s₁.setTop (mkF m 1 #[.val (.long q1), .second, .unset, .unset, .unset, .unset, .unset, .unset, .unset, .unset] [(.long q1)]))
  refine Gd.st (fun _ k => XS.bipush X0.here hx rfl (hb hby d4_1) k) ?_
  show Gd p.tables e below _ (s₁.setTop (mkF m 3 #[.val (.long q1), .second, .unset, .unset, .unset, .unset, .unset, .unset, .unset, .unset] [(.int (31 : Int32)), (.long q1)]))
  obtain ⟨_, _, ⟨T1, L1, k1, n1⟩, -, X1, ⟨Lc1, hQ1, l1, y1, z1⟩, st1⟩ := Jvm.LawKit.callS X0 hx (y := (⟨"com/example/geogauge/geogauge/SeededRandomNextLongPinLaw", "unxorshift", "(JI)J"⟩ : MethodName)) hown (mvT hZ (hw _ (List.mem_of_getElem? (i := 24) rfl))) (mvT hZ (hw _ (List.mem_of_getElem? (i := 25) rfl))) (mvT hZ (hw _ (List.mem_of_getElem? (i := 22) rfl))) (mvT hZ (hw _ (List.mem_of_getElem? (i := 26) rfl))) (by decide) (backOf (W := 0) (rm5 l Z a0 hw [] q1 (31 : Int32) h0 n0 Z0 ) hZ (hw _ (List.mem_of_getElem? (i := 26) rfl)) (hw _ (List.mem_of_getElem? (i := 22) rfl)) (by decide) (by decide)) (g := (mkF m 3 #[.val (.long q1), .second, .unset, .unset, .unset, .unset, .unset, .unset, .unset, .unset] [(.int (31 : Int32)), (.long q1)])) rfl (by rw [hml]; rfl) (argsL := [(.long q1), (.int (31 : Int32))]) (rest := []) (lenOf pd__JI_J_5 rfl) rfl (by show 2 * 0 + _ ≤ _; exact Nat.le_of_eq rfl) (hb hby d4_3) (fun _ _ => ⟨rfl, e0, (by decide : 0 + 0 ≤ _), (by decide : 0 + 0 ≤ _)⟩)
  dsimp only [Pt.U, Pt.locs, Pt.cells, Pt.slots] at X1 l1 y1 z1 st1 hQ1
  simp only [Nat.add_zero, Nat.zero_add, Nat.reduceAdd] at y1 z1
  subst y1 z1
  obtain ⟨rfl, N1q, eh1⟩ := hQ1
  have N1 : Fr n0 L1 := by rw [l1]; exact Fr.app N0 N1q
  clear l1
  refine Gd.st st1 ?_
  have e1 : T1.heap = h0 := eh1
  show Gd p.tables e below _ (T1.setTop (mkF m 6 #[.val (.long q1), .second, .unset, .unset, .unset, .unset, .unset, .unset, .unset, .unset] [(.long (own_ux q1 (31 : Int32)))]))
  refine Gd.st (fun _ k => XS.lstoreN X1.here hx rfl (hb hby d4_6) rfl (l' := #[.val (.long q1), .second, .val (.long (own_ux q1 (31 : Int32))), .second, .unset, .unset, .unset, .unset, .unset, .unset]) rfl k) ?_
  show Gd p.tables e below _ (T1.setTop (mkF m 7 #[.val (.long q1), .second, .val (.long (own_ux q1 (31 : Int32))), .second, .unset, .unset, .unset, .unset, .unset, .unset] []))
  refine Gd.st (fun _ k => XS.lloadN X1.here hx rfl (hb hby d4_7) rfl k) ?_
  show Gd p.tables e below _ (T1.setTop (mkF m 8 #[.val (.long q1), .second, .val (.long (own_ux q1 (31 : Int32))), .second, .unset, .unset, .unset, .unset, .unset, .unset] [(.long (own_ux q1 (31 : Int32)))]))
  refine Gd.st (fun _ k => X1.ldc2Long hx hown (mvT hZ (hw _ (List.mem_of_getElem? (i := 27) rfl))) (g := (mkF m 8 #[.val (.long q1), .second, .val (.long (own_ux q1 (31 : Int32))), .second, .unset, .unset, .unset, .unset, .unset, .unset] [(.long (own_ux q1 (31 : Int32)))])) rfl (hb hby d4_8) _ k) ?_
  show Gd p.tables e below _ (T1.setTop (mkF m 11 #[.val (.long q1), .second, .val (.long (own_ux q1 (31 : Int32))), .second, .unset, .unset, .unset, .unset, .unset, .unset] [(.long (-7723592293110705685 : Int64)), (.long (own_ux q1 (31 : Int32)))]))
  obtain ⟨_, _, ⟨T2, L2, k2, n2⟩, -, X2, ⟨Lc2, hQ2, l2, y2, z2⟩, st2⟩ := Jvm.LawKit.callS X1 hx (y := (⟨"com/example/geogauge/geogauge/SeededRandomNextLongPinLaw", "inverse", "(J)J"⟩ : MethodName)) hown (mvT hZ (hw _ (List.mem_of_getElem? (i := 28) rfl))) (mvT hZ (hw _ (List.mem_of_getElem? (i := 29) rfl))) (mvT hZ (hw _ (List.mem_of_getElem? (i := 22) rfl))) (mvT hZ (hw _ (List.mem_of_getElem? (i := 30) rfl))) (by decide) (backOf (W := 2) (rm6 l Z a0 hw [] (-7723592293110705685 : Int64) h0 n0 Z0 ) hZ (hw _ (List.mem_of_getElem? (i := 30) rfl)) (hw _ (List.mem_of_getElem? (i := 22) rfl)) (by decide) (by decide)) (g := (mkF m 11 #[.val (.long q1), .second, .val (.long (own_ux q1 (31 : Int32))), .second, .unset, .unset, .unset, .unset, .unset, .unset] [(.long (-7723592293110705685 : Int64)), (.long (own_ux q1 (31 : Int32)))])) rfl (by rw [hml]; rfl) (argsL := [(.long (-7723592293110705685 : Int64))]) (rest := [(.long (own_ux q1 (31 : Int32)))]) (lenOf pd__J_J_4 rfl) rfl (by show 2 * 0 + _ ≤ _; exact Nat.le_of_eq rfl) (hb hby d4_11) (fun _ _ => ⟨rfl, e1, (by decide : 0 + 0 ≤ _), (by decide : 0 + 0 ≤ _)⟩)
  dsimp only [Pt.U, Pt.locs, Pt.cells, Pt.slots] at X2 l2 y2 z2 st2 hQ2
  simp only [Nat.add_zero, Nat.zero_add, Nat.reduceAdd] at y2 z2
  subst y2 z2
  obtain ⟨rfl, N2q, eh2⟩ := hQ2
  have N2 : Fr n0 L2 := by rw [l2]; exact Fr.app N1 N2q
  clear l2
  refine Gd.st st2 ?_
  have e2 : T2.heap = h0 := eh2
  show Gd p.tables e below _ (T2.setTop (mkF m 14 #[.val (.long q1), .second, .val (.long (own_ux q1 (31 : Int32))), .second, .unset, .unset, .unset, .unset, .unset, .unset] [(.long (own_inv (-7723592293110705685 : Int64))), (.long (own_ux q1 (31 : Int32)))]))
  refine Gd.st (fun _ k => XS.lmul X2.here hx rfl (hb hby d4_14) rfl k) ?_
  show Gd p.tables e below _ (T2.setTop (mkF m 15 #[.val (.long q1), .second, .val (.long (own_ux q1 (31 : Int32))), .second, .unset, .unset, .unset, .unset, .unset, .unset] [(.long (own_u1 q1))]))
  refine Gd.st (fun _ k => XS.lstore X2.here hx rfl (hb hby d4_15) rfl (l' := #[.val (.long q1), .second, .val (.long (own_ux q1 (31 : Int32))), .second, .val (.long (own_u1 q1)), .second, .unset, .unset, .unset, .unset]) rfl k) ?_
  show Gd p.tables e below _ (T2.setTop (mkF m 17 #[.val (.long q1), .second, .val (.long (own_ux q1 (31 : Int32))), .second, .val (.long (own_u1 q1)), .second, .unset, .unset, .unset, .unset] []))
  refine Gd.st (fun _ k => XS.lload X2.here hx rfl (hb hby d4_17) rfl k) ?_
  show Gd p.tables e below _ (T2.setTop (mkF m 19 #[.val (.long q1), .second, .val (.long (own_ux q1 (31 : Int32))), .second, .val (.long (own_u1 q1)), .second, .unset, .unset, .unset, .unset] [(.long (own_u1 q1))]))
  refine Gd.st (fun _ k => XS.bipush X2.here hx rfl (hb hby d4_19) k) ?_
  show Gd p.tables e below _ (T2.setTop (mkF m 21 #[.val (.long q1), .second, .val (.long (own_ux q1 (31 : Int32))), .second, .val (.long (own_u1 q1)), .second, .unset, .unset, .unset, .unset] [(.int (27 : Int32)), (.long (own_u1 q1))]))
  obtain ⟨_, _, ⟨T3, L3, k3, n3⟩, -, X3, ⟨Lc3, hQ3, l3, y3, z3⟩, st3⟩ := Jvm.LawKit.callS X2 hx (y := (⟨"com/example/geogauge/geogauge/SeededRandomNextLongPinLaw", "unxorshift", "(JI)J"⟩ : MethodName)) hown (mvT hZ (hw _ (List.mem_of_getElem? (i := 24) rfl))) (mvT hZ (hw _ (List.mem_of_getElem? (i := 25) rfl))) (mvT hZ (hw _ (List.mem_of_getElem? (i := 22) rfl))) (mvT hZ (hw _ (List.mem_of_getElem? (i := 26) rfl))) (by decide) (backOf (W := 0) (rm5 l Z a0 hw [] (own_u1 q1) (27 : Int32) h0 n0 Z0 ) hZ (hw _ (List.mem_of_getElem? (i := 26) rfl)) (hw _ (List.mem_of_getElem? (i := 22) rfl)) (by decide) (by decide)) (g := (mkF m 21 #[.val (.long q1), .second, .val (.long (own_ux q1 (31 : Int32))), .second, .val (.long (own_u1 q1)), .second, .unset, .unset, .unset, .unset] [(.int (27 : Int32)), (.long (own_u1 q1))])) rfl (by rw [hml]; rfl) (argsL := [(.long (own_u1 q1)), (.int (27 : Int32))]) (rest := []) (lenOf pd__JI_J_5 rfl) rfl (by show 2 * 0 + _ ≤ _; exact Nat.le_of_eq rfl) (hb hby d4_21) (fun _ _ => ⟨rfl, e2, (by decide : 0 + 0 ≤ _), (by decide : 0 + 0 ≤ _)⟩)
  dsimp only [Pt.U, Pt.locs, Pt.cells, Pt.slots] at X3 l3 y3 z3 st3 hQ3
  simp only [Nat.add_zero, Nat.zero_add, Nat.reduceAdd] at y3 z3
  subst y3 z3
  obtain ⟨rfl, N3q, eh3⟩ := hQ3
  have N3 : Fr n0 L3 := by rw [l3]; exact Fr.app N2 N3q
  clear l3
  refine Gd.st st3 ?_
  have e3 : T3.heap = h0 := eh3
  show Gd p.tables e below _ (T3.setTop (mkF m 24 #[.val (.long q1), .second, .val (.long (own_ux q1 (31 : Int32))), .second, .val (.long (own_u1 q1)), .second, .unset, .unset, .unset, .unset] [(.long (own_ux (own_u1 q1) (27 : Int32)))]))
  refine Gd.st (fun _ k => XS.lstore X3.here hx rfl (hb hby d4_24) rfl (l' := #[.val (.long q1), .second, .val (.long (own_ux q1 (31 : Int32))), .second, .val (.long (own_u1 q1)), .second, .val (.long (own_ux (own_u1 q1) (27 : Int32))), .second, .unset, .unset]) rfl k) ?_
  show Gd p.tables e below _ (T3.setTop (mkF m 26 #[.val (.long q1), .second, .val (.long (own_ux q1 (31 : Int32))), .second, .val (.long (own_u1 q1)), .second, .val (.long (own_ux (own_u1 q1) (27 : Int32))), .second, .unset, .unset] []))
  refine Gd.st (fun _ k => XS.lload X3.here hx rfl (hb hby d4_26) rfl k) ?_
  show Gd p.tables e below _ (T3.setTop (mkF m 28 #[.val (.long q1), .second, .val (.long (own_ux q1 (31 : Int32))), .second, .val (.long (own_u1 q1)), .second, .val (.long (own_ux (own_u1 q1) (27 : Int32))), .second, .unset, .unset] [(.long (own_ux (own_u1 q1) (27 : Int32)))]))
  refine Gd.st (fun _ k => X3.ldc2Long hx hown (mvT hZ (hw _ (List.mem_of_getElem? (i := 32) rfl))) (g := (mkF m 28 #[.val (.long q1), .second, .val (.long (own_ux q1 (31 : Int32))), .second, .val (.long (own_u1 q1)), .second, .val (.long (own_ux (own_u1 q1) (27 : Int32))), .second, .unset, .unset] [(.long (own_ux (own_u1 q1) (27 : Int32)))])) rfl (hb hby d4_28) _ k) ?_
  show Gd p.tables e below _ (T3.setTop (mkF m 31 #[.val (.long q1), .second, .val (.long (own_ux q1 (31 : Int32))), .second, .val (.long (own_u1 q1)), .second, .val (.long (own_ux (own_u1 q1) (27 : Int32))), .second, .unset, .unset] [(.long (-4658895280553007687 : Int64)), (.long (own_ux (own_u1 q1) (27 : Int32)))]))
  obtain ⟨_, _, ⟨T4, L4, k4, n4⟩, -, X4, ⟨Lc4, hQ4, l4, y4, z4⟩, st4⟩ := Jvm.LawKit.callS X3 hx (y := (⟨"com/example/geogauge/geogauge/SeededRandomNextLongPinLaw", "inverse", "(J)J"⟩ : MethodName)) hown (mvT hZ (hw _ (List.mem_of_getElem? (i := 28) rfl))) (mvT hZ (hw _ (List.mem_of_getElem? (i := 29) rfl))) (mvT hZ (hw _ (List.mem_of_getElem? (i := 22) rfl))) (mvT hZ (hw _ (List.mem_of_getElem? (i := 30) rfl))) (by decide) (backOf (W := 2) (rm6 l Z a0 hw [] (-4658895280553007687 : Int64) h0 n0 Z0 ) hZ (hw _ (List.mem_of_getElem? (i := 30) rfl)) (hw _ (List.mem_of_getElem? (i := 22) rfl)) (by decide) (by decide)) (g := (mkF m 31 #[.val (.long q1), .second, .val (.long (own_ux q1 (31 : Int32))), .second, .val (.long (own_u1 q1)), .second, .val (.long (own_ux (own_u1 q1) (27 : Int32))), .second, .unset, .unset] [(.long (-4658895280553007687 : Int64)), (.long (own_ux (own_u1 q1) (27 : Int32)))])) rfl (by rw [hml]; rfl) (argsL := [(.long (-4658895280553007687 : Int64))]) (rest := [(.long (own_ux (own_u1 q1) (27 : Int32)))]) (lenOf pd__J_J_4 rfl) rfl (by show 2 * 0 + _ ≤ _; exact Nat.le_of_eq rfl) (hb hby d4_31) (fun _ _ => ⟨rfl, e3, (by decide : 0 + 0 ≤ _), (by decide : 0 + 0 ≤ _)⟩)
  dsimp only [Pt.U, Pt.locs, Pt.cells, Pt.slots] at X4 l4 y4 z4 st4 hQ4
  simp only [Nat.add_zero, Nat.zero_add, Nat.reduceAdd] at y4 z4
  subst y4 z4
  obtain ⟨rfl, N4q, eh4⟩ := hQ4
  have N4 : Fr n0 L4 := by rw [l4]; exact Fr.app N3 N4q
  clear l4
  refine Gd.st st4 ?_
  have e4 : T4.heap = h0 := eh4
  show Gd p.tables e below _ (T4.setTop (mkF m 34 #[.val (.long q1), .second, .val (.long (own_ux q1 (31 : Int32))), .second, .val (.long (own_u1 q1)), .second, .val (.long (own_ux (own_u1 q1) (27 : Int32))), .second, .unset, .unset] [(.long (own_inv (-4658895280553007687 : Int64))), (.long (own_ux (own_u1 q1) (27 : Int32)))]))
  refine Gd.st (fun _ k => XS.lmul X4.here hx rfl (hb hby d4_34) rfl k) ?_
  show Gd p.tables e below _ (T4.setTop (mkF m 35 #[.val (.long q1), .second, .val (.long (own_ux q1 (31 : Int32))), .second, .val (.long (own_u1 q1)), .second, .val (.long (own_ux (own_u1 q1) (27 : Int32))), .second, .unset, .unset] [(.long (own_u2 (own_u1 q1)))]))
  refine Gd.st (fun _ k => XS.lstore X4.here hx rfl (hb hby d4_35) rfl (l' := #[.val (.long q1), .second, .val (.long (own_ux q1 (31 : Int32))), .second, .val (.long (own_u1 q1)), .second, .val (.long (own_ux (own_u1 q1) (27 : Int32))), .second, .val (.long (own_u2 (own_u1 q1))), .second]) rfl k) ?_
  show Gd p.tables e below _ (T4.setTop (mkF m 37 #[.val (.long q1), .second, .val (.long (own_ux q1 (31 : Int32))), .second, .val (.long (own_u1 q1)), .second, .val (.long (own_ux (own_u1 q1) (27 : Int32))), .second, .val (.long (own_u2 (own_u1 q1))), .second] []))
  refine Gd.st (fun _ k => XS.lload X4.here hx rfl (hb hby d4_37) rfl k) ?_
  show Gd p.tables e below _ (T4.setTop (mkF m 39 #[.val (.long q1), .second, .val (.long (own_ux q1 (31 : Int32))), .second, .val (.long (own_u1 q1)), .second, .val (.long (own_ux (own_u1 q1) (27 : Int32))), .second, .val (.long (own_u2 (own_u1 q1))), .second] [(.long (own_u2 (own_u1 q1)))]))
  refine Gd.st (fun _ k => XS.bipush X4.here hx rfl (hb hby d4_39) k) ?_
  show Gd p.tables e below _ (T4.setTop (mkF m 41 #[.val (.long q1), .second, .val (.long (own_ux q1 (31 : Int32))), .second, .val (.long (own_u1 q1)), .second, .val (.long (own_ux (own_u1 q1) (27 : Int32))), .second, .val (.long (own_u2 (own_u1 q1))), .second] [(.int (30 : Int32)), (.long (own_u2 (own_u1 q1)))]))
  obtain ⟨_, _, ⟨T5, L5, k5, n5⟩, -, X5, ⟨Lc5, hQ5, l5, y5, z5⟩, st5⟩ := Jvm.LawKit.callS X4 hx (y := (⟨"com/example/geogauge/geogauge/SeededRandomNextLongPinLaw", "unxorshift", "(JI)J"⟩ : MethodName)) hown (mvT hZ (hw _ (List.mem_of_getElem? (i := 24) rfl))) (mvT hZ (hw _ (List.mem_of_getElem? (i := 25) rfl))) (mvT hZ (hw _ (List.mem_of_getElem? (i := 22) rfl))) (mvT hZ (hw _ (List.mem_of_getElem? (i := 26) rfl))) (by decide) (backOf (W := 0) (rm5 l Z a0 hw [] (own_u2 (own_u1 q1)) (30 : Int32) h0 n0 Z0 ) hZ (hw _ (List.mem_of_getElem? (i := 26) rfl)) (hw _ (List.mem_of_getElem? (i := 22) rfl)) (by decide) (by decide)) (g := (mkF m 41 #[.val (.long q1), .second, .val (.long (own_ux q1 (31 : Int32))), .second, .val (.long (own_u1 q1)), .second, .val (.long (own_ux (own_u1 q1) (27 : Int32))), .second, .val (.long (own_u2 (own_u1 q1))), .second] [(.int (30 : Int32)), (.long (own_u2 (own_u1 q1)))])) rfl (by rw [hml]; rfl) (argsL := [(.long (own_u2 (own_u1 q1))), (.int (30 : Int32))]) (rest := []) (lenOf pd__JI_J_5 rfl) rfl (by show 2 * 0 + _ ≤ _; exact Nat.le_of_eq rfl) (hb hby d4_41) (fun _ _ => ⟨rfl, e4, (by decide : 0 + 0 ≤ _), (by decide : 0 + 0 ≤ _)⟩)
  dsimp only [Pt.U, Pt.locs, Pt.cells, Pt.slots] at X5 l5 y5 z5 st5 hQ5
  simp only [Nat.add_zero, Nat.zero_add, Nat.reduceAdd] at y5 z5
  subst y5 z5
  obtain ⟨rfl, N5q, eh5⟩ := hQ5
  have N5 : Fr n0 L5 := by rw [l5]; exact Fr.app N4 N5q
  clear l5
  refine Gd.st st5 ?_
  have e5 : T5.heap = h0 := eh5
  show Gd p.tables e below _ (T5.setTop (mkF m 44 #[.val (.long q1), .second, .val (.long (own_ux q1 (31 : Int32))), .second, .val (.long (own_u1 q1)), .second, .val (.long (own_ux (own_u1 q1) (27 : Int32))), .second, .val (.long (own_u2 (own_u1 q1))), .second] [(.long (own_ux (own_u2 (own_u1 q1)) (30 : Int32)))]))
  obtain ⟨fs, hr, hrun, hended, hW, hsame⟩ := X5.leave (v := some (.long (own_ux (own_u2 (own_u1 q1)) (30 : Int32)))) (fun h => by rw [Bd.returns] at h; cases h) Bd.notSynchronized
  refine Gd.mk (o := .returned (some (.long (own_ux (own_u2 (own_u1 q1)) (30 : Int32))))) (X5.lreturnOut hx Bd.returns (hb hby d4_44) hr) ⟨hrun, hended, _, _, rfl, ?_, ⟨_, rfl⟩, hW, hsame.mono (by decide) (by decide)⟩
  show Q4 Z q1 h0 n0 _ T5.heap _
  rw [e5]
  exact ⟨rfl, N5, rfl⟩
theorem ef_0 (m : MethodId) (x0 : Int64) : entryFrame m #[(.long x0)] maxLocals = mkF m 0 #[.val (.long x0), .second, .unset, .unset, .unset, .unset, .unset, .unset, .unset] [] := by first | (simp [entryFrame, mkF, argsToLocals, Value.category, maxLocals]; done) | rfl
theorem pd__J_V_4 : parseMethodDescriptor "(J)V" = some ⟨[.long], none⟩ := by decide +kernel
theorem pd___J_3 : parseMethodDescriptor "()J" = some ⟨[], some .long⟩ := by decide +kernel
def Q0 (Z : State) (q1 : Int64) (h0 : Heap) (n0 : Nat) (v : Option Value) (h : Heap) (L : List Loc) : Prop := v = some (.int (1 : Int32)) ∧ Fr n0 L
set_option maxRecDepth 65536 in
set_option maxHeartbeats 40000000 in
theorem rm0 (l : Launch) (Z : State) (a0 : Array Value) (hw : ∀ d ∈ tables_1, d.before a0 Z = true) (ws : List Jvm.Cond) (q1 : Int64) (h0 : Heap) (n0 : Nat) (Z0 : n0 ≤ h0.size) :
    MetFree l x (head1 (Jvm.Cond.code x code maxLocals ret :: ws) room_1) (fun a U => a = #[(.long q1)] ∧ Z.Warmed39 U.vm ∧ U.heap = h0) (fun _ _ _ _ _ => True) (fun _ U o U' => ∃ v L, o = .returned v ∧ Q0 Z q1 h0 n0 v U'.heap L ∧ FrameEnd U o U' L room_1.cells room_1.slots) := by
  refine MetFree.of_bodySF (plainFor_of_name pn_SeededRandomNextLongPinLaw) hisR ?_
  intro p e s m args below meth c s₁ Bd hml0 hP hK
  obtain ⟨rfl, hZ, hh⟩ := hP
  have hx := Bd.exec
  have hby := Bd.bytes
  have hml : c.maxLocals = 9 := hml0
  have hown : s.vm.findClass "com/example/geogauge/geogauge/SeededRandomNextLongPinLaw" = some m.cls := findClass_of_methodNamed Bd.named
  have hnm := (name_of_methodNamed Bd.named Bd.method).1
  have X0 : Stand p l e room_1 s m #[(.long q1)] below meth c s₁ [] 0 0 := Stand.of_body Bd
  have e0 : s₁.heap = h0 := by rw [← hh, Bd.state]; rfl
  have N0 := Fr.nil n0
  refine Gd.out (Gd.st (fun t k => castTop (ef_0 m q1) k) ?_)
  show Gd p.tables e below _ (s₁.setTop (mkF m 0 #[.val (.long q1), .second, .unset, .unset, .unset, .unset, .unset, .unset, .unset] []))
  refine Gd.st (fun _ k => X0.ldc2Long hx hown (mvT hZ (hw _ (List.mem_of_getElem? (i := 0) rfl))) (g := (mkF m 0 #[.val (.long q1), .second, .unset, .unset, .unset, .unset, .unset, .unset, .unset] [])) rfl (hb hby at_0) _ k) ?_
  show Gd p.tables e below _ (s₁.setTop (mkF m 3 #[.val (.long q1), .second, .unset, .unset, .unset, .unset, .unset, .unset, .unset] [(.long (-7046029254386353131 : Int64))]))
  refine Gd.st (fun _ k => XS.lstoreN X0.here hx rfl (hb hby at_3) rfl (l' := #[.val (.long q1), .second, .val (.long (-7046029254386353131 : Int64)), .second, .unset, .unset, .unset, .unset, .unset]) rfl k) ?_
  show Gd p.tables e below _ (s₁.setTop (mkF m 4 #[.val (.long q1), .second, .val (.long (-7046029254386353131 : Int64)), .second, .unset, .unset, .unset, .unset, .unset] []))
  obtain ⟨T1, h1, X1, e1, E1, A1, D1, -, st1⟩ := newO X0 hx hZ hown (hw _ (List.mem_of_getElem? (i := 1) rfl)) (hw _ (List.mem_of_getElem? (i := 2) rfl)) (hw _ (List.mem_of_getElem? (i := 3) rfl)) e0 (g := (mkF m 4 #[.val (.long q1), .second, .val (.long (-7046029254386353131 : Int64)), .second, .unset, .unset, .unset, .unset, .unset] [])) rfl (hb hby at_4) (by decide) (by decide)
  obtain ⟨b1, g1⟩ : ∃ z, z = h0.size := ⟨_, rfl⟩
  rw [← g1] at A1 D1 st1
  refine Gd.st st1 ?_
  have g_b1 : n0 ≤ b1 := Nat.le_trans Z0 (Nat.le_of_eq g1.symm)
  have Z2 : n0 ≤ h1.size := Nat.le_trans Z0 E1.1
  have F_state_b1 : Fld Z h1 b1 "com/example/geogauge/geogauge/SeededRandom" "state" "J" (.long (0 : Int64)) := D1 (Or.inl (hw _ (List.mem_of_getElem? (i := 11) rfl))) (ty := .long) (by decide)
  show Gd p.tables e below _ (T1.setTop (mkF m 7 #[.val (.long q1), .second, .val (.long (-7046029254386353131 : Int64)), .second, .unset, .unset, .unset, .unset, .unset] [(.ref b1)]))
  refine Gd.st (fun _ k => XS.dup X1.here hx rfl (hb hby at_7) rfl rfl k) ?_
  show Gd p.tables e below _ (T1.setTop (mkF m 8 #[.val (.long q1), .second, .val (.long (-7046029254386353131 : Int64)), .second, .unset, .unset, .unset, .unset, .unset] [(.ref b1), (.ref b1)]))
  refine Gd.st (fun _ k => XS.lloadN X1.here hx rfl (hb hby at_8) rfl k) ?_
  show Gd p.tables e below _ (T1.setTop (mkF m 9 #[.val (.long q1), .second, .val (.long (-7046029254386353131 : Int64)), .second, .unset, .unset, .unset, .unset, .unset] [(.long q1), (.ref b1), (.ref b1)]))
  obtain ⟨_, _, ⟨T3, L3, k3, n3⟩, -, X3, ⟨Lc3, hQ3, l3, y3, z3⟩, st3⟩ := X1.specialBack hx (y := (⟨"com/example/geogauge/geogauge/SeededRandom", "<init>", "(J)V"⟩ : MethodName)) rfl hown (mvT hZ (hw _ (List.mem_of_getElem? (i := 4) rfl))) (mvT hZ (hw _ (List.mem_of_getElem? (i := 5) rfl))) (mvT hZ (hw _ (List.mem_of_getElem? (i := 6) rfl))) (by decide) (backOf (W := 1) (rm1 l Z a0 hw [] b1 q1 h1 n0 Z2 A1 F_state_b1 g_b1) hZ (hw _ (List.mem_of_getElem? (i := 6) rfl)) (hw _ (List.mem_of_getElem? (i := 3) rfl)) (by decide) (by decide)) (g := (mkF m 9 #[.val (.long q1), .second, .val (.long (-7046029254386353131 : Int64)), .second, .unset, .unset, .unset, .unset, .unset] [(.long q1), (.ref b1), (.ref b1)])) rfl (by rw [hml]; rfl) (Steps.refl _) (a := b1) (argsL := [(.long q1)]) (rest := [(.ref b1)]) (lenOf pd__J_V_4 rfl) rfl (by show 2 * 0 + _ ≤ _; exact Nat.le_of_eq rfl) (hb hby at_9) (fun _ _ => ⟨rfl, e1, (by decide : 1 + 0 ≤ _), (by decide : 3 + 0 ≤ _)⟩)
  dsimp only [Pt.U, Pt.locs, Pt.cells, Pt.slots] at X3 l3 y3 z3 st3 hQ3
  simp only [Nat.add_zero, Nat.zero_add, Nat.reduceAdd] at y3 z3
  subst y3 z3
  obtain ⟨rfl, N3q, K3, A3, F3_0⟩ := hQ3
  have N3 : Fr n0 L3 := by rw [l3]; exact Fr.app N0 N3q
  clear l3
  refine Gd.st (fun _ k => st3.trans k) ?_
  have Z4 : n0 ≤ T3.heap.size := Nat.le_trans Z2 K3.1
  show Gd p.tables e below _ (T3.setTop (mkF m 12 #[.val (.long q1), .second, .val (.long (-7046029254386353131 : Int64)), .second, .unset, .unset, .unset, .unset, .unset] [(.ref b1)]))
  refine Gd.st (fun _ k => XS.astore X3.here hx rfl (hb hby at_12) rfl rfl (l' := #[.val (.long q1), .second, .val (.long (-7046029254386353131 : Int64)), .second, .val (.ref b1), .unset, .unset, .unset, .unset]) rfl k) ?_
  show Gd p.tables e below _ (T3.setTop (mkF m 14 #[.val (.long q1), .second, .val (.long (-7046029254386353131 : Int64)), .second, .val (.ref b1), .unset, .unset, .unset, .unset] []))
  refine Gd.st (fun _ k => XS.aload X3.here hx rfl (hb hby at_14) rfl rfl k) ?_
  show Gd p.tables e below _ (T3.setTop (mkF m 16 #[.val (.long q1), .second, .val (.long (-7046029254386353131 : Int64)), .second, .val (.ref b1), .unset, .unset, .unset, .unset] [(.ref b1)]))
  obtain ⟨cq5, kq5, q5a, q5b, q5c⟩ := isOf hZ rfl A3
  obtain ⟨_, _, ⟨T5, L5, k5, n5⟩, -, X5, ⟨Lc5, hQ5, l5, y5, z5⟩, st5⟩ := X3.virtualBack hx (y := (⟨"com/example/geogauge/geogauge/SeededRandom", "nextLong", "()J"⟩ : MethodName)) (z := (⟨"com/example/geogauge/geogauge/SeededRandom", "nextLong", "()J"⟩ : MethodName)) hown (mvT hZ (hw _ (List.mem_of_getElem? (i := 12) rfl))) (mvT hZ (hw _ (List.mem_of_getElem? (i := 13) rfl))) (notFace_of_selects (args := #[]) (mvT hZ (hw _ (List.mem_of_getElem? (i := 15) rfl)))) (mvT hZ (hw _ (List.mem_of_getElem? (i := 15) rfl))) (mvT hZ (hw _ (List.mem_of_getElem? (i := 14) rfl))) (by decide) (backOf (W := 0) (rm3 l Z a0 hw [] b1 q1 T3.heap n0 Z4 A3 F3_0 g_b1) hZ (hw _ (List.mem_of_getElem? (i := 16) rfl)) (hw _ (List.mem_of_getElem? (i := 3) rfl)) (by decide) (by decide)) q5a q5c (g := (mkF m 16 #[.val (.long q1), .second, .val (.long (-7046029254386353131 : Int64)), .second, .val (.ref b1), .unset, .unset, .unset, .unset] [(.ref b1)])) rfl (by rw [hml]; rfl) (Steps.refl _) (argsL := []) (rest := []) (lenOf pd___J_3 rfl) rfl (by show 2 * 0 + _ ≤ _; exact Nat.le_of_eq rfl) (hb hby at_16) (fun _ _ => ⟨rfl, rfl, (by decide : 1 + 0 ≤ _), (by decide : 3 + 0 ≤ _)⟩)
  dsimp only [Pt.U, Pt.locs, Pt.cells, Pt.slots] at X5 l5 y5 z5 st5 hQ5
  simp only [Nat.add_zero, Nat.zero_add, Nat.reduceAdd] at y5 z5
  subst y5 z5
  obtain ⟨rfl, N5q, K5, A5, F5_0⟩ := hQ5
  have N5 : Fr n0 L5 := by rw [l5]; exact Fr.app N3 N5q
  clear l5
  refine Gd.st (fun _ k => st5.trans k) ?_
  have Z6 : n0 ≤ T5.heap.size := Nat.le_trans Z4 K5.1
  show Gd p.tables e below _ (T5.setTop (mkF m 19 #[.val (.long q1), .second, .val (.long (-7046029254386353131 : Int64)), .second, .val (.ref b1), .unset, .unset, .unset, .unset] [(.long (own_mix (q1 + (-7046029254386353131 : Int64))))]))
  refine Gd.st (fun _ k => XS.lstore X5.here hx rfl (hb hby at_19) rfl (l' := #[.val (.long q1), .second, .val (.long (-7046029254386353131 : Int64)), .second, .val (.ref b1), .val (.long (own_mix (q1 + (-7046029254386353131 : Int64)))), .second, .unset, .unset]) rfl k) ?_
  show Gd p.tables e below _ (T5.setTop (mkF m 21 #[.val (.long q1), .second, .val (.long (-7046029254386353131 : Int64)), .second, .val (.ref b1), .val (.long (own_mix (q1 + (-7046029254386353131 : Int64)))), .second, .unset, .unset] []))
  refine Gd.st (fun _ k => XS.aload X5.here hx rfl (hb hby at_21) rfl rfl k) ?_
  show Gd p.tables e below _ (T5.setTop (mkF m 23 #[.val (.long q1), .second, .val (.long (-7046029254386353131 : Int64)), .second, .val (.ref b1), .val (.long (own_mix (q1 + (-7046029254386353131 : Int64)))), .second, .unset, .unset] [(.ref b1)]))
  obtain ⟨cq7, kq7, q7a, q7b, q7c⟩ := isOf hZ rfl A5
  obtain ⟨_, _, ⟨T7, L7, k7, n7⟩, -, X7, ⟨Lc7, hQ7, l7, y7, z7⟩, st7⟩ := X5.virtualBack hx (y := (⟨"com/example/geogauge/geogauge/SeededRandom", "nextLong", "()J"⟩ : MethodName)) (z := (⟨"com/example/geogauge/geogauge/SeededRandom", "nextLong", "()J"⟩ : MethodName)) hown (mvT hZ (hw _ (List.mem_of_getElem? (i := 12) rfl))) (mvT hZ (hw _ (List.mem_of_getElem? (i := 13) rfl))) (notFace_of_selects (args := #[]) (mvT hZ (hw _ (List.mem_of_getElem? (i := 15) rfl)))) (mvT hZ (hw _ (List.mem_of_getElem? (i := 15) rfl))) (mvT hZ (hw _ (List.mem_of_getElem? (i := 14) rfl))) (by decide) (backOf (W := 0) (rm3 l Z a0 hw [] b1 (q1 + (-7046029254386353131 : Int64)) T5.heap n0 Z6 A5 F5_0 g_b1) hZ (hw _ (List.mem_of_getElem? (i := 16) rfl)) (hw _ (List.mem_of_getElem? (i := 3) rfl)) (by decide) (by decide)) q7a q7c (g := (mkF m 23 #[.val (.long q1), .second, .val (.long (-7046029254386353131 : Int64)), .second, .val (.ref b1), .val (.long (own_mix (q1 + (-7046029254386353131 : Int64)))), .second, .unset, .unset] [(.ref b1)])) rfl (by rw [hml]; rfl) (Steps.refl _) (argsL := []) (rest := []) (lenOf pd___J_3 rfl) rfl (by show 2 * 0 + _ ≤ _; exact Nat.le_of_eq rfl) (hb hby at_23) (fun _ _ => ⟨rfl, rfl, (by decide : 1 + 0 ≤ _), (by decide : 3 + 0 ≤ _)⟩)
  dsimp only [Pt.U, Pt.locs, Pt.cells, Pt.slots] at X7 l7 y7 z7 st7 hQ7
  simp only [Nat.add_zero, Nat.zero_add, Nat.reduceAdd] at y7 z7
  subst y7 z7
  obtain ⟨rfl, N7q, K7, A7, F7_0⟩ := hQ7
  have N7 : Fr n0 L7 := by rw [l7]; exact Fr.app N5 N7q
  clear l7
  refine Gd.st (fun _ k => st7.trans k) ?_
  have Z8 : n0 ≤ T7.heap.size := Nat.le_trans Z6 K7.1
  show Gd p.tables e below _ (T7.setTop (mkF m 26 #[.val (.long q1), .second, .val (.long (-7046029254386353131 : Int64)), .second, .val (.ref b1), .val (.long (own_mix (q1 + (-7046029254386353131 : Int64)))), .second, .unset, .unset] [(.long (own_mix ((q1 + (-7046029254386353131 : Int64)) + (-7046029254386353131 : Int64))))]))
  refine Gd.st (fun _ k => XS.lstore X7.here hx rfl (hb hby at_26) rfl (l' := #[.val (.long q1), .second, .val (.long (-7046029254386353131 : Int64)), .second, .val (.ref b1), .val (.long (own_mix (q1 + (-7046029254386353131 : Int64)))), .second, .val (.long (own_mix ((q1 + (-7046029254386353131 : Int64)) + (-7046029254386353131 : Int64)))), .second]) rfl k) ?_
  show Gd p.tables e below _ (T7.setTop (mkF m 28 #[.val (.long q1), .second, .val (.long (-7046029254386353131 : Int64)), .second, .val (.ref b1), .val (.long (own_mix (q1 + (-7046029254386353131 : Int64)))), .second, .val (.long (own_mix ((q1 + (-7046029254386353131 : Int64)) + (-7046029254386353131 : Int64)))), .second] []))
  refine Gd.st (fun _ k => XS.lload X7.here hx rfl (hb hby at_28) rfl k) ?_
  show Gd p.tables e below _ (T7.setTop (mkF m 30 #[.val (.long q1), .second, .val (.long (-7046029254386353131 : Int64)), .second, .val (.ref b1), .val (.long (own_mix (q1 + (-7046029254386353131 : Int64)))), .second, .val (.long (own_mix ((q1 + (-7046029254386353131 : Int64)) + (-7046029254386353131 : Int64)))), .second] [(.long (own_mix (q1 + (-7046029254386353131 : Int64))))]))
  obtain ⟨_, _, ⟨T9, L9, k9, n9⟩, -, X9, ⟨Lc9, hQ9, l9, y9, z9⟩, st9⟩ := Jvm.LawKit.callS X7 hx (y := (⟨"com/example/geogauge/geogauge/SeededRandomNextLongPinLaw", "unmix", "(J)J"⟩ : MethodName)) hown (mvT hZ (hw _ (List.mem_of_getElem? (i := 20) rfl))) (mvT hZ (hw _ (List.mem_of_getElem? (i := 21) rfl))) (mvT hZ (hw _ (List.mem_of_getElem? (i := 22) rfl))) (mvT hZ (hw _ (List.mem_of_getElem? (i := 23) rfl))) (by decide) (backOf (W := 0) (rm4 l Z a0 hw [] (own_mix (q1 + (-7046029254386353131 : Int64))) T7.heap n0 Z8 ) hZ (hw _ (List.mem_of_getElem? (i := 23) rfl)) (hw _ (List.mem_of_getElem? (i := 22) rfl)) (by decide) (by decide)) (g := (mkF m 30 #[.val (.long q1), .second, .val (.long (-7046029254386353131 : Int64)), .second, .val (.ref b1), .val (.long (own_mix (q1 + (-7046029254386353131 : Int64)))), .second, .val (.long (own_mix ((q1 + (-7046029254386353131 : Int64)) + (-7046029254386353131 : Int64)))), .second] [(.long (own_mix (q1 + (-7046029254386353131 : Int64))))])) rfl (by rw [hml]; rfl) (argsL := [(.long (own_mix (q1 + (-7046029254386353131 : Int64))))]) (rest := []) (lenOf pd__J_J_4 rfl) rfl (by show 2 * 0 + _ ≤ _; exact Nat.le_of_eq rfl) (hb hby at_30) (fun _ _ => ⟨rfl, rfl, (by decide : 1 + 0 ≤ _), (by decide : 3 + 0 ≤ _)⟩)
  dsimp only [Pt.U, Pt.locs, Pt.cells, Pt.slots] at X9 l9 y9 z9 st9 hQ9
  simp only [Nat.add_zero, Nat.zero_add, Nat.reduceAdd] at y9 z9
  subst y9 z9
  obtain ⟨rfl, N9q, eh9⟩ := hQ9
  have N9 : Fr n0 L9 := by rw [l9]; exact Fr.app N7 N9q
  clear l9
  refine Gd.st st9 ?_
  have e9 : T9.heap = T7.heap := eh9
  show Gd p.tables e below _ (T9.setTop (mkF m 33 #[.val (.long q1), .second, .val (.long (-7046029254386353131 : Int64)), .second, .val (.ref b1), .val (.long (own_mix (q1 + (-7046029254386353131 : Int64)))), .second, .val (.long (own_mix ((q1 + (-7046029254386353131 : Int64)) + (-7046029254386353131 : Int64)))), .second] [(.long (own_unmix (own_mix (q1 + (-7046029254386353131 : Int64)))))]))
  refine Gd.st (fun _ k => XS.lloadN X9.here hx rfl (hb hby at_33) rfl k) ?_
  show Gd p.tables e below _ (T9.setTop (mkF m 34 #[.val (.long q1), .second, .val (.long (-7046029254386353131 : Int64)), .second, .val (.ref b1), .val (.long (own_mix (q1 + (-7046029254386353131 : Int64)))), .second, .val (.long (own_mix ((q1 + (-7046029254386353131 : Int64)) + (-7046029254386353131 : Int64)))), .second] [(.long q1), (.long (own_unmix (own_mix (q1 + (-7046029254386353131 : Int64)))))]))
  refine Gd.st (fun _ k => XS.lloadN X9.here hx rfl (hb hby at_34) rfl k) ?_
  show Gd p.tables e below _ (T9.setTop (mkF m 35 #[.val (.long q1), .second, .val (.long (-7046029254386353131 : Int64)), .second, .val (.ref b1), .val (.long (own_mix (q1 + (-7046029254386353131 : Int64)))), .second, .val (.long (own_mix ((q1 + (-7046029254386353131 : Int64)) + (-7046029254386353131 : Int64)))), .second] [(.long (-7046029254386353131 : Int64)), (.long q1), (.long (own_unmix (own_mix (q1 + (-7046029254386353131 : Int64)))))]))
  refine Gd.st (fun _ k => XS.ladd X9.here hx rfl (hb hby at_35) rfl k) ?_
  show Gd p.tables e below _ (T9.setTop (mkF m 36 #[.val (.long q1), .second, .val (.long (-7046029254386353131 : Int64)), .second, .val (.ref b1), .val (.long (own_mix (q1 + (-7046029254386353131 : Int64)))), .second, .val (.long (own_mix ((q1 + (-7046029254386353131 : Int64)) + (-7046029254386353131 : Int64)))), .second] [(.long (q1 + (-7046029254386353131 : Int64))), (.long (own_unmix (own_mix (q1 + (-7046029254386353131 : Int64)))))]))
  refine Gd.st (fun _ k => XS.lcmp X9.here hx rfl (hb hby at_36) rfl k) ?_
  show Gd p.tables e below _ (T9.setTop (mkF m 37 #[.val (.long q1), .second, .val (.long (-7046029254386353131 : Int64)), .second, .val (.ref b1), .val (.long (own_mix (q1 + (-7046029254386353131 : Int64)))), .second, .val (.long (own_mix ((q1 + (-7046029254386353131 : Int64)) + (-7046029254386353131 : Int64)))), .second] [(.int (lcmpW (own_unmix (own_mix (q1 + (-7046029254386353131 : Int64)))) (q1 + (-7046029254386353131 : Int64))))]))
  refine Gd.st (fun _ k => XS.ifNo X9.here hx rfl (hb hby at_37) rfl ((if0 _ _).trans (teq ((lw_eq (own_unmix (own_mix (q1 + (-7046029254386353131 : Int64)))) (q1 + (-7046029254386353131 : Int64))).mpr (own_law _))).2) k) ?_
  show Gd p.tables e below _ (T9.setTop (mkF m 40 #[.val (.long q1), .second, .val (.long (-7046029254386353131 : Int64)), .second, .val (.ref b1), .val (.long (own_mix (q1 + (-7046029254386353131 : Int64)))), .second, .val (.long (own_mix ((q1 + (-7046029254386353131 : Int64)) + (-7046029254386353131 : Int64)))), .second] []))
  refine Gd.st (fun _ k => XS.lload X9.here hx rfl (hb hby at_40) rfl k) ?_
  show Gd p.tables e below _ (T9.setTop (mkF m 42 #[.val (.long q1), .second, .val (.long (-7046029254386353131 : Int64)), .second, .val (.ref b1), .val (.long (own_mix (q1 + (-7046029254386353131 : Int64)))), .second, .val (.long (own_mix ((q1 + (-7046029254386353131 : Int64)) + (-7046029254386353131 : Int64)))), .second] [(.long (own_mix ((q1 + (-7046029254386353131 : Int64)) + (-7046029254386353131 : Int64))))]))
  obtain ⟨_, _, ⟨T10, L10, k10, n10⟩, -, X10, ⟨Lc10, hQ10, l10, y10, z10⟩, st10⟩ := Jvm.LawKit.callS X9 hx (y := (⟨"com/example/geogauge/geogauge/SeededRandomNextLongPinLaw", "unmix", "(J)J"⟩ : MethodName)) hown (mvT hZ (hw _ (List.mem_of_getElem? (i := 20) rfl))) (mvT hZ (hw _ (List.mem_of_getElem? (i := 21) rfl))) (mvT hZ (hw _ (List.mem_of_getElem? (i := 22) rfl))) (mvT hZ (hw _ (List.mem_of_getElem? (i := 23) rfl))) (by decide) (backOf (W := 0) (rm4 l Z a0 hw [] (own_mix ((q1 + (-7046029254386353131 : Int64)) + (-7046029254386353131 : Int64))) T7.heap n0 Z8 ) hZ (hw _ (List.mem_of_getElem? (i := 23) rfl)) (hw _ (List.mem_of_getElem? (i := 22) rfl)) (by decide) (by decide)) (g := (mkF m 42 #[.val (.long q1), .second, .val (.long (-7046029254386353131 : Int64)), .second, .val (.ref b1), .val (.long (own_mix (q1 + (-7046029254386353131 : Int64)))), .second, .val (.long (own_mix ((q1 + (-7046029254386353131 : Int64)) + (-7046029254386353131 : Int64)))), .second] [(.long (own_mix ((q1 + (-7046029254386353131 : Int64)) + (-7046029254386353131 : Int64))))])) rfl (by rw [hml]; rfl) (argsL := [(.long (own_mix ((q1 + (-7046029254386353131 : Int64)) + (-7046029254386353131 : Int64))))]) (rest := []) (lenOf pd__J_J_4 rfl) rfl (by show 2 * 0 + _ ≤ _; exact Nat.le_of_eq rfl) (hb hby at_42) (fun _ _ => ⟨rfl, e9, (by decide : 1 + 0 ≤ _), (by decide : 3 + 0 ≤ _)⟩)
  dsimp only [Pt.U, Pt.locs, Pt.cells, Pt.slots] at X10 l10 y10 z10 st10 hQ10
  simp only [Nat.add_zero, Nat.zero_add, Nat.reduceAdd] at y10 z10
  subst y10 z10
  obtain ⟨rfl, N10q, eh10⟩ := hQ10
  have N10 : Fr n0 L10 := by rw [l10]; exact Fr.app N9 N10q
  clear l10
  refine Gd.st st10 ?_
  have e10 : T10.heap = T7.heap := eh10
  show Gd p.tables e below _ (T10.setTop (mkF m 45 #[.val (.long q1), .second, .val (.long (-7046029254386353131 : Int64)), .second, .val (.ref b1), .val (.long (own_mix (q1 + (-7046029254386353131 : Int64)))), .second, .val (.long (own_mix ((q1 + (-7046029254386353131 : Int64)) + (-7046029254386353131 : Int64)))), .second] [(.long (own_unmix (own_mix ((q1 + (-7046029254386353131 : Int64)) + (-7046029254386353131 : Int64)))))]))
  refine Gd.st (fun _ k => XS.lloadN X10.here hx rfl (hb hby at_45) rfl k) ?_
  show Gd p.tables e below _ (T10.setTop (mkF m 46 #[.val (.long q1), .second, .val (.long (-7046029254386353131 : Int64)), .second, .val (.ref b1), .val (.long (own_mix (q1 + (-7046029254386353131 : Int64)))), .second, .val (.long (own_mix ((q1 + (-7046029254386353131 : Int64)) + (-7046029254386353131 : Int64)))), .second] [(.long q1), (.long (own_unmix (own_mix ((q1 + (-7046029254386353131 : Int64)) + (-7046029254386353131 : Int64)))))]))
  refine Gd.st (fun _ k => X10.ldc2Long hx hown (mvT hZ (hw _ (List.mem_of_getElem? (i := 31) rfl))) (g := (mkF m 46 #[.val (.long q1), .second, .val (.long (-7046029254386353131 : Int64)), .second, .val (.ref b1), .val (.long (own_mix (q1 + (-7046029254386353131 : Int64)))), .second, .val (.long (own_mix ((q1 + (-7046029254386353131 : Int64)) + (-7046029254386353131 : Int64)))), .second] [(.long q1), (.long (own_unmix (own_mix ((q1 + (-7046029254386353131 : Int64)) + (-7046029254386353131 : Int64)))))])) rfl (hb hby at_46) _ k) ?_
  show Gd p.tables e below _ (T10.setTop (mkF m 49 #[.val (.long q1), .second, .val (.long (-7046029254386353131 : Int64)), .second, .val (.ref b1), .val (.long (own_mix (q1 + (-7046029254386353131 : Int64)))), .second, .val (.long (own_mix ((q1 + (-7046029254386353131 : Int64)) + (-7046029254386353131 : Int64)))), .second] [(.long (2 : Int64)), (.long q1), (.long (own_unmix (own_mix ((q1 + (-7046029254386353131 : Int64)) + (-7046029254386353131 : Int64)))))]))
  refine Gd.st (fun _ k => XS.lloadN X10.here hx rfl (hb hby at_49) rfl k) ?_
  show Gd p.tables e below _ (T10.setTop (mkF m 50 #[.val (.long q1), .second, .val (.long (-7046029254386353131 : Int64)), .second, .val (.ref b1), .val (.long (own_mix (q1 + (-7046029254386353131 : Int64)))), .second, .val (.long (own_mix ((q1 + (-7046029254386353131 : Int64)) + (-7046029254386353131 : Int64)))), .second] [(.long (-7046029254386353131 : Int64)), (.long (2 : Int64)), (.long q1), (.long (own_unmix (own_mix ((q1 + (-7046029254386353131 : Int64)) + (-7046029254386353131 : Int64)))))]))
  refine Gd.st (fun _ k => XS.lmul X10.here hx rfl (hb hby at_50) rfl k) ?_
  show Gd p.tables e below _ (T10.setTop (mkF m 51 #[.val (.long q1), .second, .val (.long (-7046029254386353131 : Int64)), .second, .val (.ref b1), .val (.long (own_mix (q1 + (-7046029254386353131 : Int64)))), .second, .val (.long (own_mix ((q1 + (-7046029254386353131 : Int64)) + (-7046029254386353131 : Int64)))), .second] [(.long ((2 : Int64) * (-7046029254386353131 : Int64))), (.long q1), (.long (own_unmix (own_mix ((q1 + (-7046029254386353131 : Int64)) + (-7046029254386353131 : Int64)))))]))
  refine Gd.st (fun _ k => XS.ladd X10.here hx rfl (hb hby at_51) rfl k) ?_
  show Gd p.tables e below _ (T10.setTop (mkF m 52 #[.val (.long q1), .second, .val (.long (-7046029254386353131 : Int64)), .second, .val (.ref b1), .val (.long (own_mix (q1 + (-7046029254386353131 : Int64)))), .second, .val (.long (own_mix ((q1 + (-7046029254386353131 : Int64)) + (-7046029254386353131 : Int64)))), .second] [(.long (q1 + ((2 : Int64) * (-7046029254386353131 : Int64)))), (.long (own_unmix (own_mix ((q1 + (-7046029254386353131 : Int64)) + (-7046029254386353131 : Int64)))))]))
  refine Gd.st (fun _ k => XS.lcmp X10.here hx rfl (hb hby at_52) rfl k) ?_
  show Gd p.tables e below _ (T10.setTop (mkF m 53 #[.val (.long q1), .second, .val (.long (-7046029254386353131 : Int64)), .second, .val (.ref b1), .val (.long (own_mix (q1 + (-7046029254386353131 : Int64)))), .second, .val (.long (own_mix ((q1 + (-7046029254386353131 : Int64)) + (-7046029254386353131 : Int64)))), .second] [(.int (lcmpW (own_unmix (own_mix ((q1 + (-7046029254386353131 : Int64)) + (-7046029254386353131 : Int64)))) (q1 + ((2 : Int64) * (-7046029254386353131 : Int64)))))]))
  refine Gd.st (fun _ k => XS.ifNo X10.here hx rfl (hb hby at_53) rfl ((if0 _ _).trans (teq ((lw_eq (own_unmix (own_mix ((q1 + (-7046029254386353131 : Int64)) + (-7046029254386353131 : Int64)))) (q1 + ((2 : Int64) * (-7046029254386353131 : Int64)))).mpr (own_law2 _))).2) k) ?_
  show Gd p.tables e below _ (T10.setTop (mkF m 56 #[.val (.long q1), .second, .val (.long (-7046029254386353131 : Int64)), .second, .val (.ref b1), .val (.long (own_mix (q1 + (-7046029254386353131 : Int64)))), .second, .val (.long (own_mix ((q1 + (-7046029254386353131 : Int64)) + (-7046029254386353131 : Int64)))), .second] []))
  refine Gd.st (fun _ k => XS.iconst X10.here hx rfl (hb hby at_56) k) ?_
  show Gd p.tables e below _ (T10.setTop (mkF m 57 #[.val (.long q1), .second, .val (.long (-7046029254386353131 : Int64)), .second, .val (.ref b1), .val (.long (own_mix (q1 + (-7046029254386353131 : Int64)))), .second, .val (.long (own_mix ((q1 + (-7046029254386353131 : Int64)) + (-7046029254386353131 : Int64)))), .second] [(.int (1 : Int32))]))
  refine Gd.st (fun _ k => XS.goto X10.here hx rfl (pc0 := 57) (pc' := 61) rfl (hb hby at_57) (by decide) (by decide) k) ?_
  show Gd p.tables e below _ (T10.setTop (mkF m 61 #[.val (.long q1), .second, .val (.long (-7046029254386353131 : Int64)), .second, .val (.ref b1), .val (.long (own_mix (q1 + (-7046029254386353131 : Int64)))), .second, .val (.long (own_mix ((q1 + (-7046029254386353131 : Int64)) + (-7046029254386353131 : Int64)))), .second] [(.int (1 : Int32))]))
  obtain ⟨fs, hr, hrun, hended, hW, hsame⟩ := X10.leave (v := some (.int (1 : Int32))) (fun h => by rw [Bd.returns] at h; cases h) Bd.notSynchronized
  refine Gd.mk (o := .returned (some (.int (1 : Int32)))) (retN X10 hx (t := .boolean) Bd.returns (by simp) (hb hby at_61) hr) ⟨hrun, hended, _, _, rfl, ?_, ⟨_, rfl⟩, hW, hsame.mono (by decide) (by decide)⟩
  show Q0 Z q1 h0 n0 _ T10.heap _
  rw [e10]
  exact ⟨rfl, N10⟩
set_option maxRecDepth 65536 in
set_option maxHeartbeats 40000000 in
theorem comes_1 {Post : Tables → Env → Array Value → State → Outcome → State → Prop} (hpost : ∀ tb e args s v u, (limb_1_1.after args s (.returned v) u = true ∧ limb_1_2.after args s (.returned v) u = true ∧ True) → FrameEnd s (.returned v) u (Jvm.fieldLocs frame_1_writes args s ++ Jvm.arrayLocs frame_1_arrays args s ++ Jvm.staticLocs frame_1_statics s) 16 128 → Post tb e args s (.returned v) u) :
    ArmFor flags0 classFile x code maxLocals ret World_1 tables_1 room_1 Calls_1 rest_1 Pre_1 Post := by
  intro l hfl _ _ p e ha hc hk s m args below hf hA hF happ hP
  obtain ⟨hcalls, hrest, hpre⟩ := hP
  obtain ⟨-, -, -, hnamed, -, -, -, hat⟩ := (Spec.applies_iff hf).mp happ
  obtain ⟨hg, hn⟩ := and_e (Cond.before_iff.mp (show (Jvm.Cond.and given_1 narrow_1).before args s = true from hpre))
  obtain ⟨g1, g2⟩ := and_e hg
  obtain ⟨w0, rfl⟩ : ∃ w0 : Value, args = #[w0] := by
    have hs : args.size = 1 := by simpa [Cond.value, given_1] using g1
    obtain ⟨L⟩ := args
    match L, hs with
    | [w0], _ => exact ⟨w0, rfl⟩
  have hw := fun d (hd : d ∈ tables_1) => atoms_spec (ws := Jvm.Cond.code x code maxLocals ret :: tables_1) hat d (List.mem_cons_of_mem _ hd)
  obtain ⟨i0, ei0⟩ := isL_v g2
  obtain rfl : w0 = (.long i0) := Option.some.inj ei0
  obtain ⟨n, o, h1, h2, h3, _, L, rfl, ⟨rfl, N⟩, hq⟩ := rm0 l s _ hw tables_1 i0 s.heap s.heap.size (Nat.le_refl _) p e ha hc hk s m _ below hf ((Spec.applies_iff_loose hf).mp happ).1 ⟨rfl, State.Warmed39.refl s, rfl⟩ trivial
  refine ⟨n, _, h1, h2, h3, hpost _ _ _ _ _ _ ⟨Cond.after_iff.mpr rfl, Cond.after_iff.mpr (eq_i res_at (Term.int_eval (1)) rfl), trivial⟩ ⟨hq.1, hq.2.1, (hq.2.2.sift fun y hy => Or.inr (N y hy)).mono (by decide) (by decide)⟩⟩
theorem main_1_1 : Claimed_1_1 := comes_1 fun _ _ _ _ _ _ h hF => ⟨h.1, hF⟩
theorem main_1_2 : Claimed_1_2 := comes_1 fun _ _ _ _ _ _ h hF => ⟨h.2.1, hF⟩
end Jvm.Pilot.@@N@@
namespace Jvm.Pilot.@@N@@
open Jvm Jvm.ClassFile Sem Op Lib Jvm.Free Jvm.Stand Jvm.Pilot.@@N@@.Jvm.D
/-! MADE BY PROGRAM (witnessworld.py) out of the Statement's table words and the real class files: 9 classes; the members and pool entries that the words name. The judged class is class 1, her method 1. -/
namespace start1
open Jvm.ClassFile
def u (s : String) : CpInfo := .utf8 (stringToUtf16 s)
/-- a pool by its gaps: so many unusable entries, then the entry; so many at the end -/
def gap : Nat → List CpInfo → List CpInfo
  | 0, r => r
  | n + 1, r => .unusable :: gap n r
def poolList (es : List (Nat × CpInfo)) (last : Nat) : List CpInfo := es.foldr (fun e r => gap e.1 (e.2 :: r)) (gap last [])
def pool (es : List (Nat × CpInfo)) (last : Nat) : Array CpInfo := ⟨poolList es last⟩
def fileOf (pool : Array CpInfo) (this : Nat) (attrs : Array Attribute := #[]) (ms : Array MethodInfo := #[]) (fl : Nat := 33) (sup : Nat := 0) (ifs : Array Nat := #[]) (fds : Array FieldInfo := #[]) : ClassFile where
  minorVersion := 0
  majorVersion := 65
  constantPool := pool
  accessFlags := fl
  thisClass := this
  superClass := sup
  interfaces := ifs
  fields := fds
  methods := ms
  attributes := attrs
def plain (name : String) (sup : Option ClassId) : Class where
  name := name
  kind := .ordinary
  loader := none
  accessFlags := 33
  super := sup
  interfaces := #[]
  cf := none
  fields := #[]
  methods := #[]
  instanceTypes := #[]
  staticTypes := #[]
  resolved := #[]
  callSites := []
  init := .initialized
  statics := none
  mirror := none

def pool0 : Array CpInfo := pool [(5, u "<init>"), (0, u "()V"), (1, .class_ 10), (1, u "java/lang/Object")] 113

def k0c0 : Code := { maxStack := 0, maxLocals := 1, code := object_method_1_code, exceptionTable := #[], attributes := #[] }
def k0m0 : Method := { name := "<init>", desc := "()V", sig := { parameters := [], returnType := none }, accessFlags := 1, code := some k0c0 }
/-- java/lang/Object -/
def k0 : Class := { plain "java/lang/Object" none with
  accessFlags := 33
  interfaces := #[]
  cf := some (fileOf pool0 8 #[] #[{ accessFlags := 1, nameIndex := 5, descriptorIndex := 6, attributes := #[] }] 33 0 #[] #[])
  fields := #[]
  methods := #[k0m0]
  instanceTypes := #[]
  staticTypes := #[]
  resolved := Array.replicate 124 none
  statics := none }

def pool1 : Array CpInfo := pool [(2, .class_ 4), (1, u "java/lang/Object"), (0, u "<init>"), (0, u "()V"), (0, .long 11400714819323198485), (1, .class_ 10), (0, u "com/example/geogauge/geogauge/SeededRandom"), (0, .methodref 9 12), (0, .nameAndType 5 13), (0, u "(J)V"), (0, .methodref 9 15), (0, .nameAndType 16 17), (0, u "nextLong"), (0, u "()J"), (0, .methodref 19 20), (0, .class_ 21), (0, .nameAndType 22 23), (0, u "com/example/geogauge/geogauge/SeededRandomNextLongPinLaw"), (0, u "unmix"), (0, u "(J)J"), (0, .long 2), (1, .methodref 19 27), (0, .nameAndType 28 29), (0, u "unxorshift"), (0, u "(JI)J"), (0, .long 10723151780598845931), (1, .methodref 19 33), (0, .nameAndType 34 23), (0, u "inverse"), (0, .long 13787848793156543929), (3, u "law"), (0, u "(J)Z")] 3

def k1m0 : Method := { name := "<init>", desc := "()V", sig := { parameters := [], returnType := none }, accessFlags := 1, code := none }
def k1c1 : Code := { maxStack := 8, maxLocals := 9, code := code, exceptionTable := #[], attributes := #[] }
def k1m1 : Method := { name := "law", desc := "(J)Z", sig := { parameters := [.long], returnType := some .boolean }, accessFlags := 9, code := some k1c1 }
def k1c2 : Code := { maxStack := 8, maxLocals := 4, code := method_3_code, exceptionTable := #[], attributes := #[] }
def k1m2 : Method := { name := "inverse", desc := "(J)J", sig := { parameters := [.long], returnType := some .long }, accessFlags := 10, code := some k1c2 }
def k1c3 : Code := { maxStack := 6, maxLocals := 3, code := method_4_code, exceptionTable := #[], attributes := #[] }
def k1m3 : Method := { name := "unxorshift", desc := "(JI)J", sig := { parameters := [.long, .int], returnType := some .long }, accessFlags := 10, code := some k1c3 }
def k1c4 : Code := { maxStack := 4, maxLocals := 10, code := method_5_code, exceptionTable := #[], attributes := #[] }
def k1m4 : Method := { name := "unmix", desc := "(J)J", sig := { parameters := [.long], returnType := some .long }, accessFlags := 10, code := some k1c4 }
/-- com/example/geogauge/geogauge/SeededRandomNextLongPinLaw -/
def k1 : Class := { plain "com/example/geogauge/geogauge/SeededRandomNextLongPinLaw" (some 0) with
  accessFlags := 49
  interfaces := #[]
  cf := some (fileOf pool1 19 #[] #[{ accessFlags := 1, nameIndex := 5, descriptorIndex := 6, attributes := #[] }, { accessFlags := 9, nameIndex := 39, descriptorIndex := 40, attributes := #[] }, { accessFlags := 10, nameIndex := 34, descriptorIndex := 23, attributes := #[] }, { accessFlags := 10, nameIndex := 28, descriptorIndex := 29, attributes := #[] }, { accessFlags := 10, nameIndex := 22, descriptorIndex := 23, attributes := #[] }] 49 2 #[] #[])
  fields := #[]
  methods := #[k1m0, k1m1, k1m2, k1m3, k1m4]
  instanceTypes := #[]
  staticTypes := #[]
  resolved := Array.replicate 44 none
  statics := none }

def pool2 : Array CpInfo := pool [(1, .methodref 2 3), (0, .class_ 4), (0, .nameAndType 5 6), (0, u "java/lang/Object"), (0, u "<init>"), (0, u "()V"), (0, .fieldref 8 9), (0, .class_ 10), (0, .nameAndType 11 12), (0, u "com/example/geogauge/geogauge/SeededRandom"), (0, u "state"), (0, u "J"), (0, .long 11400714819323198485), (1, .long 13787848793156543929), (1, .long 10723151780598845931), (3, u "nextLong"), (0, u "()J"), (17, u "hasSpareGaussian"), (0, u "Z"), (2, u "spareGaussian"), (0, u "D"), (44, u "GOLDEN_GAMMA"), (1, u "DOUBLE_UNIT"), (0, u "(J)V")] 29

def k2c0 : Code := { maxStack := 3, maxLocals := 3, code := prog_11_method_1_code, exceptionTable := #[], attributes := #[] }
def k2m0 : Method := { name := "<init>", desc := "(J)V", sig := { parameters := [.long], returnType := none }, accessFlags := 1, code := some k2c0 }
def k2c1 : Code := { maxStack := 5, maxLocals := 3, code := prog_11_method_2_code, exceptionTable := #[], attributes := #[] }
def k2m1 : Method := { name := "nextLong", desc := "()J", sig := { parameters := [], returnType := some .long }, accessFlags := 0, code := some k2c1 }
/-- com/example/geogauge/geogauge/SeededRandom -/
def k2 : Class := { plain "com/example/geogauge/geogauge/SeededRandom" (some 0) with
  accessFlags := 49
  interfaces := #[]
  cf := some (fileOf pool2 8 #[] #[{ accessFlags := 1, nameIndex := 5, descriptorIndex := 93, attributes := #[] }, { accessFlags := 0, nameIndex := 21, descriptorIndex := 22, attributes := #[] }] 49 2 #[] #[{ accessFlags := 26, nameIndex := 90, descriptorIndex := 12, attributes := #[] }, { accessFlags := 26, nameIndex := 92, descriptorIndex := 45, attributes := #[] }, { accessFlags := 2, nameIndex := 11, descriptorIndex := 12, attributes := #[] }, { accessFlags := 2, nameIndex := 44, descriptorIndex := 45, attributes := #[] }, { accessFlags := 2, nameIndex := 40, descriptorIndex := 41, attributes := #[] }])
  fields := #[{ name := "GOLDEN_GAMMA", type := .long, accessFlags := 26, slot := 0, constantValue := 0 }, { name := "DOUBLE_UNIT", type := .double, accessFlags := 26, slot := 1, constantValue := 0 }, { name := "state", type := .long, accessFlags := 2, slot := 0, constantValue := 0 }, { name := "spareGaussian", type := .double, accessFlags := 2, slot := 1, constantValue := 0 }, { name := "hasSpareGaussian", type := .boolean, accessFlags := 2, slot := 2, constantValue := 0 }]
  methods := #[k2m0, k2m1]
  instanceTypes := #[.long, .double, .boolean]
  staticTypes := #[.long, .double]
  resolved := Array.replicate 123 none
  statics := none }

def pool3 : Array CpInfo := pool [(1, u "java/lang/Cloneable"), (0, .class_ 1), (0, u "java/lang/Object"), (0, .class_ 3)] 3

/-- java/lang/Cloneable -/
def k3 : Class := { plain "java/lang/Cloneable" (some 0) with
  accessFlags := 1537
  interfaces := #[]
  cf := some (fileOf pool3 2 #[] #[] 1537 4 #[] #[])
  fields := #[]
  methods := #[]
  instanceTypes := #[]
  staticTypes := #[]
  resolved := Array.replicate 8 none
  statics := none }

def pool4 : Array CpInfo := pool [(1, u "java/io/Serializable"), (0, .class_ 1), (0, u "java/lang/Object"), (0, .class_ 3)] 3

/-- java/io/Serializable -/
def k4 : Class := { plain "java/io/Serializable" (some 0) with
  accessFlags := 1537
  interfaces := #[]
  cf := some (fileOf pool4 2 #[] #[] 1537 4 #[] #[])
  fields := #[]
  methods := #[]
  instanceTypes := #[]
  staticTypes := #[]
  resolved := Array.replicate 8 none
  statics := none }

/-- the primitive byte -/
def k5 : Class := { plain "byte" none with kind := .primitive 'B', accessFlags := 0x411 }
/-- [B -/
def k6 : Class := { plain "[B" (some 0) with kind := .array 5 .byte, interfaces := #[3, 4], accessFlags := 1041 }

/-- the primitive int -/
def k7 : Class := { plain "int" none with kind := .primitive 'I', accessFlags := 0x411 }
/-- [I -/
def k8 : Class := { plain "[I" (some 0) with kind := .array 7 .int, interfaces := #[3, 4], accessFlags := 1041 }

def heap : Heap := #[]
def classes : Array Class := #[k0, k1, k2, k3, k4, k5, k6, k7, k8]
def interned : List (Array UInt16 × Addr) := []
def slotsUsed : Nat := 0
def theMethod : MethodId := ⟨1, 1⟩
def args0 : Array Value := #[.long 5]
def aboutOver (below : List Frame) : State where
  vm := { classes := classes, interned := interned.toArray }
  heap := heap
  slotsUsed := slotsUsed
  threads := #[{ frames := .invoking theMethod args0 :: below }]
def below0 : List Frame := [.native { method := ⟨0, 0⟩, args := #[] }]
def about1 : State := aboutOver below0
def p0 : Program := .bare "" "" ""
def e0 : Env := launch0.env 0 0 0
theorem w_frames : about1.frames = Frame.invoking theMethod args0 :: below0 := rfl
set_option maxRecDepth 65536 in
theorem w_args : argsFit about1.vm theMethod args0 = true := by decide +kernel
set_option maxRecDepth 65536 in
theorem w_heap : heapFits about1 = true := by decide +kernel
set_option maxRecDepth 65536 in
theorem w_runnable : about1.curStatus? = some .runnable := by decide +kernel
set_option maxRecDepth 65536 in
theorem w_alone : about1.alone = true := by decide +kernel
set_option maxRecDepth 65536 in
theorem w_named : about1.methodNamed? x = some theMethod := by decide +kernel
set_option maxRecDepth 65536 in
theorem w_hears : about1.hears theMethod below0 = true := by decide +kernel
set_option maxRecDepth 65536 in
theorem w_ripe : about1.ripe theMethod args0 below0 = true := by decide +kernel
theorem w_running : about1.status = .running := rfl
set_option maxRecDepth 65536 in
theorem w_room : about1.hasRoom e0.platform room_1 = true :=
  launch0.hasRoom_least _ room_1 (by decide +kernel) (by decide +kernel) (by decide +kernel) (by decide +kernel) (by decide +kernel) (by decide +kernel)
theorem allAtoms_all (ts : List Jvm.Cond) (a : Array Jvm.Value) (st : Jvm.State) : (allAtoms ts).before a st = ts.all (fun c => c.before a st) := by
  induction ts with
  | nil => rfl
  | cons c t ih =>
    show (Jvm.Cond.and c (allAtoms t)).before a st = _
    rw [Jvm.Cond.before_and, ih, List.all_cons]
def words1 : List Jvm.Cond := Jvm.Cond.code x code maxLocals ret :: tables_1
/-- a 'code' word, met by the world's own term for the bytes: nothing is compared byte by byte -/
theorem code_word {y : MethodName} {bytes : ByteArray} {mx : Nat} {rt : Option FieldType} {a : Array Value} {s : State} {m : MethodId} {meth : Method} {c : Code} (h1 : s.methodNamed? y = some m) (h2 : s.vm.method? m = some meth) (h3 : meth.code = some c) (h4 : c.code = bytes)
    (h5 : (c.maxLocals == mx && c.exceptionTable.isEmpty && decide (c.maxStack ≤ mostOperands) && decide (meth.sig.returnType = rt) && !meth.locks && decide (parseMethodDescriptor y.desc = some meth.sig)) = true) : (Jvm.Cond.code y bytes mx rt).before a s = true := by
  simp only [Bool.and_eq_true, beq_iff_eq, Bool.not_eq_true', decide_eq_true_eq] at h5
  obtain ⟨⟨⟨⟨⟨g1, g2⟩, g3⟩, g4⟩, g5⟩, g6⟩ := h5
  simp [Cond.before, Cond.holds, Cond.value, h1, h2, h3, h4, g1, g2, g3, g4, g5, g6]
def isCode : Jvm.Cond → Bool
  | .code _ _ _ _ => true
  | _ => false
theorem all_split {L : List Jvm.Cond} {P : Jvm.Cond → Bool} (h1 : L.all (fun c => isCode c || P c) = true) (h2 : ∀ c ∈ L.filter isCode, P c = true) : L.all P = true := by
  refine List.all_eq_true.mpr fun c hc => ?_
  have h := List.all_eq_true.mp h1 c hc
  rcases Bool.eq_false_or_eq_true (isCode c) with hi | hi
  · exact h2 c (List.mem_filter.mpr ⟨hc, hi⟩)
  · simpa [hi] using h
set_option maxRecDepth 65536 in
theorem w_c0 : (Jvm.Cond.code x code maxLocals ret).before args0 about1 = true := code_word (m := ⟨1, 1⟩) (meth := k1m1) (c := k1c1) (by decide +kernel) rfl rfl rfl (by decide +kernel)
set_option maxRecDepth 65536 in
theorem w_c1 : (Jvm.Cond.code ({ cls := "com/example/geogauge/geogauge/SeededRandom", name := "<init>", desc := "(J)V" } : Jvm.MethodName) prog_11_method_1_code (3 : Nat) (Option.none : Option Jvm.ClassFile.FieldType)).before args0 about1 = true := code_word (m := ⟨2, 0⟩) (meth := k2m0) (c := k2c0) (by decide +kernel) rfl rfl rfl (by decide +kernel)
set_option maxRecDepth 65536 in
theorem w_c2 : (Jvm.Cond.code ({ cls := "java/lang/Object", name := "<init>", desc := "()V" } : Jvm.MethodName) object_method_1_code (1 : Nat) (Option.none : Option Jvm.ClassFile.FieldType)).before args0 about1 = true := code_word (m := ⟨0, 0⟩) (meth := k0m0) (c := k0c0) (by decide +kernel) rfl rfl rfl (by decide +kernel)
set_option maxRecDepth 65536 in
theorem w_c3 : (Jvm.Cond.code ({ cls := "com/example/geogauge/geogauge/SeededRandom", name := "nextLong", desc := "()J" } : Jvm.MethodName) prog_11_method_2_code (3 : Nat) (Option.some Jvm.ClassFile.FieldType.long)).before args0 about1 = true := code_word (m := ⟨2, 1⟩) (meth := k2m1) (c := k2c1) (by decide +kernel) rfl rfl rfl (by decide +kernel)
set_option maxRecDepth 65536 in
theorem w_c4 : (Jvm.Cond.code ({ cls := "com/example/geogauge/geogauge/SeededRandomNextLongPinLaw", name := "unmix", desc := "(J)J" } : Jvm.MethodName) method_5_code (10 : Nat) (Option.some Jvm.ClassFile.FieldType.long)).before args0 about1 = true := code_word (m := ⟨1, 4⟩) (meth := k1m4) (c := k1c4) (by decide +kernel) rfl rfl rfl (by decide +kernel)
set_option maxRecDepth 65536 in
theorem w_c5 : (Jvm.Cond.code ({ cls := "com/example/geogauge/geogauge/SeededRandomNextLongPinLaw", name := "unxorshift", desc := "(JI)J" } : Jvm.MethodName) method_4_code (3 : Nat) (Option.some Jvm.ClassFile.FieldType.long)).before args0 about1 = true := code_word (m := ⟨1, 3⟩) (meth := k1m3) (c := k1c3) (by decide +kernel) rfl rfl rfl (by decide +kernel)
set_option maxRecDepth 65536 in
theorem w_c6 : (Jvm.Cond.code ({ cls := "com/example/geogauge/geogauge/SeededRandomNextLongPinLaw", name := "inverse", desc := "(J)J" } : Jvm.MethodName) method_3_code (4 : Nat) (Option.some Jvm.ClassFile.FieldType.long)).before args0 about1 = true := code_word (m := ⟨1, 2⟩) (meth := k1m2) (c := k1c2) (by decide +kernel) rfl rfl rfl (by decide +kernel)
def codes1 : List Jvm.Cond := [Jvm.Cond.code x code maxLocals ret, Jvm.Cond.code ({ cls := "com/example/geogauge/geogauge/SeededRandom", name := "<init>", desc := "(J)V" } : Jvm.MethodName) prog_11_method_1_code (3 : Nat) (Option.none : Option Jvm.ClassFile.FieldType), Jvm.Cond.code ({ cls := "java/lang/Object", name := "<init>", desc := "()V" } : Jvm.MethodName) object_method_1_code (1 : Nat) (Option.none : Option Jvm.ClassFile.FieldType), Jvm.Cond.code ({ cls := "com/example/geogauge/geogauge/SeededRandom", name := "nextLong", desc := "()J" } : Jvm.MethodName) prog_11_method_2_code (3 : Nat) (Option.some Jvm.ClassFile.FieldType.long), Jvm.Cond.code ({ cls := "com/example/geogauge/geogauge/SeededRandomNextLongPinLaw", name := "unmix", desc := "(J)J" } : Jvm.MethodName) method_5_code (10 : Nat) (Option.some Jvm.ClassFile.FieldType.long), Jvm.Cond.code ({ cls := "com/example/geogauge/geogauge/SeededRandomNextLongPinLaw", name := "unxorshift", desc := "(JI)J" } : Jvm.MethodName) method_4_code (3 : Nat) (Option.some Jvm.ClassFile.FieldType.long), Jvm.Cond.code ({ cls := "com/example/geogauge/geogauge/SeededRandomNextLongPinLaw", name := "inverse", desc := "(J)J" } : Jvm.MethodName) method_3_code (4 : Nat) (Option.some Jvm.ClassFile.FieldType.long)]
set_option maxRecDepth 65536 in
theorem codes_eq : words1.filter isCode = codes1 := rfl
theorem w_codes : ∀ c ∈ words1.filter isCode, c.before args0 about1 = true := by
  rw [codes_eq]
  intro c hc
  simp only [codes1, List.mem_cons, List.not_mem_nil, or_false] at hc
  rcases hc with rfl | rfl | rfl | rfl | rfl | rfl | rfl
  · exact w_c0
  · exact w_c1
  · exact w_c2
  · exact w_c3
  · exact w_c4
  · exact w_c5
  · exact w_c6
set_option maxRecDepth 65536 in
theorem w_t1 : (words1.take 24).all (fun c => isCode c || c.before args0 about1) = true := by decide +kernel
set_option maxRecDepth 65536 in
theorem w_t2 : (words1.drop 24).all (fun c => isCode c || c.before args0 about1) = true := by decide +kernel
theorem w_tables : (allAtoms (Jvm.Cond.code x code maxLocals ret :: tables_1)).before args0 about1 = true := by
  rw [allAtoms_all]
  show words1.all (fun c => c.before args0 about1) = true
  refine all_split ?_ w_codes
  rw [← List.take_append_drop 24 words1, List.all_append, w_t1, w_t2]
  rfl
set_option maxRecDepth 65536 in
theorem w_case : (Jvm.Cond.and given_1 narrow_1).before args0 about1 = true := by decide +kernel
theorem w_applies : (headSpec (Jvm.Cond.code x code maxLocals ret :: tables_1) room_1).applies x e0.platform about1 = true :=
  (Spec.applies_iff w_frames).mpr ⟨w_running, w_runnable, w_alone, w_named, w_hears, w_ripe, w_room, w_tables⟩
theorem atStart : AtStart classFile x code maxLocals ret World_1 tables_1 room_1 Calls_1 rest_1 Pre_1 launch0 p0 e0 about1 theMethod args0 below0 :=
  ⟨lists_1, trivial, launch0.admits_env _ _ _, launch0.least_env, fairChoices_fair.cas, fairChoices_fair.clock, w_frames, w_args, w_heap, w_applies, trivial, trivial, w_case⟩
end start1
theorem witness_1 : WitnessClaimed_1 := ⟨start1.p0, start1.e0, start1.about1, start1.theMethod, start1.args0, start1.below0, start1.atStart⟩
end Jvm.Pilot.@@N@@
