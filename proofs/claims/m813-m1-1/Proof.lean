import JvmDerived
import JvmDerived.Pilot.@@N@@Statement
import JvmDerived.Pilot.@@N@@Code
set_option linter.unusedVariables false
set_option linter.unusedSimpArgs false
namespace Jvm.RoadKit
open Sem ClassFile Op Lib Jvm.Stand Jvm.Free Jvm.LawKit
section New
variable {p : Program} {l : Launch} {e : Env} {R : Room} {s : State} {m : MethodId} {args : Array Value} {below : List Frame} {meth : Method} {c : Code} {T : State} {locs : List Loc} {cells slots : Nat}
theorem retI (X : Stand p l e R s m args below meth c T locs cells slots) (hx : p.tables.exec = Jvm.exec) {pc : Nat} {Ls : Array Slot} {z : Int32} {rest : List Value} (hret : meth.sig.returnType = some .int) (hd : decode c.code pc = .ok (.ireturn, 1)) {fs : List Frame}
    (hl : ∀ (f : JFrame) (acts : List Action), f.method = m → f.locked = none → f.entered = [] → (doReturn e (T.setTop f) acts (some (.int z))).1 = T.setFrames fs) : Steps p.tables e below (T.setTop (mkF m pc Ls (.int z :: rest))) (T.setFrames fs) := by
  have hm' : T.vm.method? m = some meth := X.method'
  have hn : narrow .int (.int z) = .int z := rfl
  show Steps p.tables e below (T.setTop { method := m, pc := pc, locals := Ls, stack := _ :: rest, locked := none }) _
  jvm_step X.here [X.here.top, hx, hd, hm', hret, hn]
  first | (intro acts; rw [hl _ acts rfl rfl rfl]) | rw [hl _ _ rfl rfl rfl]
  exact Steps.refl _
theorem retA (X : Stand p l e R s m args below meth c T locs cells slots) (hx : p.tables.exec = Jvm.exec) {pc : Nat} {Ls : Array Slot} {a : Addr} {t : FieldType} {rest : List Value} (hret : meth.sig.returnType = some t) (ht : t.isReference = true) (hn : narrow t (.ref a) = .ref a) (hd : decode c.code pc = .ok (.areturn, 1)) {fs : List Frame}
    (hl : ∀ (f : JFrame) (acts : List Action), f.method = m → f.locked = none → f.entered = [] → (doReturn e (T.setTop f) acts (some (.ref a))).1 = T.setFrames fs) : Steps p.tables e below (T.setTop (mkF m pc Ls (.ref a :: rest))) (T.setFrames fs) :=
  retOut X hx hret hn (Or.inr (Or.inr (Or.inr (Or.inr ⟨rfl, ht, rfl⟩)))) hd hl
def Gd (tb : Tables) (e : Env) (below : List Frame) (P : State → Outcome → Prop) (A : State) : Prop := ∃ t o, Steps tb e below A t ∧ P t o
theorem Gd.out {tb : Tables} {P : State → Outcome → Prop} {A : State} (h : Gd tb e below P A) : ∃ t o, Steps tb e below A t ∧ P t o := h
theorem Gd.st {tb : Tables} {P : State → Outcome → Prop} {A B : State} (h : ∀ t, Steps tb e below B t → Steps tb e below A t) (k : Gd tb e below P B) : Gd tb e below P A := by
  obtain ⟨t, o, k1, k2⟩ := k; exact ⟨t, o, h t k1, k2⟩
theorem Gd.join {tb : Tables} {P : State → Outcome → Prop} {A B : State} (h : Gd tb e below P B → Gd tb e below P A) (k : Gd tb e below P B) : Gd tb e below P A := h k
theorem Gd.mk {tb : Tables} {P : State → Outcome → Prop} {A t : State} {o : Outcome} (h : Steps tb e below A t) (k : P t o) : Gd tb e below P A := ⟨t, o, h, k⟩
end New
end Jvm.RoadKit
namespace Jvm.Pilot.@@N@@
open Jvm Jvm.ClassFile Sem Op Lib Jvm.Free Jvm.Stand Jvm.LawKit Jvm.RoadKit Bundle Jvm.Pilot.@@N@@.Jvm.D
def own_up (f : Nat → Int32) (i : Nat) (v : Int32) : Nat → Int32 := fun m => if m = i then v else f m
theorem own_lt (j : Int32) (h : ¬ j < 0 ∧ j < (8 : Int32)) : j.toNatClampNeg < 8 := by
  obtain ⟨h1, h2⟩ := h
  rw [Int32.lt_iff_toInt_lt] at h1 h2
  have e0 : (0 : Int32).toInt = 0 := rfl
  have e8 : (8 : Int32).toInt = 8 := rfl
  unfold Int32.toNatClampNeg
  omega
theorem own_inb (j : Int32) (h : 0 ≤ j.toInt ∧ j.toInt < 8) : ¬ j < 0 ∧ j < (8 : Int32) := by
  rw [Int32.lt_iff_toInt_lt, Int32.lt_iff_toInt_lt]
  have e0 : (0 : Int32).toInt = 0 := rfl
  have e8 : (8 : Int32).toInt = 8 := rfl
  omega
def own_vs (f : Nat → Int32) : List Value := [.int (f 0), .int (f 1), .int (f 2), .int (f 3), .int (f 4), .int (f 5), .int (f 6), .int (f 7)]
theorem own_get (f : Nat → Int32) (i : Nat) (h : i < 8) : (own_vs f).getD i (.int (0 : Int32)) = .int (f i) := by
  have : i = 0 ∨ i = 1 ∨ i = 2 ∨ i = 3 ∨ i = 4 ∨ i = 5 ∨ i = 6 ∨ i = 7 := by omega
  rcases this with rfl | rfl | rfl | rfl | rfl | rfl | rfl | rfl <;> rfl
theorem own_vset (f : Nat → Int32) (i : Nat) (v : Int32) (h : i < 8) : (own_vs f).set i (.int v) = own_vs (own_up f i v) := by
  have : i = 0 ∨ i = 1 ∨ i = 2 ∨ i = 3 ∨ i = 4 ∨ i = 5 ∨ i = 6 ∨ i = 7 := by omega
  rcases this with rfl | rfl | rfl | rfl | rfl | rfl | rfl | rfl <;> rfl
theorem own_put {Z : State} {h h' : Heap} {a : Addr} {k : ClassId} {f : Nat → Int32} {c : Cell} {j x : Int32} (A : Arr Z h a c .byte) (q1 : c.cls = k) (S : c.slots.size = (8 : Int32).toNatClampNeg) (q3 : ¬ (8 : Int32) < 0) (H : Has c (own_vs f) (.int (0 : Int32))) (G : ∀ i, i < c.slots.size → fits .byte ((own_vs f).getD i (.int (0 : Int32))) = true)
    (W : Wr h h' a j.toNatClampNeg (.int (nar .byte x))) (hj : j.toNatClampNeg < 8) : Arv Z h' a k .byte (8 : Int32) (own_vs (own_up f j.toNatClampNeg x.toInt8.toInt32)) (.int (0 : Int32)) := by
  have := Arv.set A q1 S q3 H G (fits_nar_byte x) W j.toNatClampNeg rfl (show j.toNatClampNeg < 8 from hj)
  rwa [own_vset _ _ _ hj] at this
def own_f8 (a b c d e f g h : Int32) : Nat → Int32
  | 0 => a
  | 1 => b
  | 2 => c
  | 3 => d
  | 4 => e
  | 5 => f
  | 6 => g
  | 7 => h
  | _ => 0
def own_zz : Nat → Int32 := fun _ => 0
def own_by (x : Int32) : Int32 := x.toInt8.toInt32.toInt8.toInt32
def own_ar (x k : Int32) : Int32 := x >>> (k &&& 31)
def own_s4 (f : Nat → Int32) (p a b c d : Int32) : Nat → Int32 := own_up (own_up (own_up (own_up f p.toNatClampNeg a) (p + (1 : Int32)).toNatClampNeg b) (p + (2 : Int32)).toNatClampNeg c) (p + (3 : Int32)).toNatClampNeg d
def own_set4 (f : Nat → Int32) (p v : Int32) : Nat → Int32 := own_s4 f p (own_by (own_ar v (24 : Int32))) (own_by (own_ar v (16 : Int32))) (own_by (own_ar v (8 : Int32))) (own_by v)
def own_i (p : Int32) : Int32 := (p &&& (2147483647 : Int32)) - ((p &&& (2147483647 : Int32)) / (5 : Int32)) * (5 : Int32)
def own_kept (f g : Nat → Int32) (j p : Int32) : Int32 := if ((¬ j < p) ∧ j < (p + (4 : Int32))) ∨ f j.toNatClampNeg = g j.toNatClampNeg then 1 else 0
def own_bk (f : Nat → Int32) (p : Int32) : Int32 := (((f p.toNatClampNeg &&& (255 : Int32)) <<< ((24 : Int32) &&& 31)) ||| ((f (p + (1 : Int32)).toNatClampNeg &&& (255 : Int32)) <<< ((16 : Int32) &&& 31)) ||| ((f (p + (2 : Int32)).toNatClampNeg &&& (255 : Int32)) <<< ((8 : Int32) &&& 31))) ||| (f (p + (3 : Int32)).toNatClampNeg &&& (255 : Int32))
theorem own_i5 (p : Int32) : own_i p = (0 : Int32) ∨ own_i p = (1 : Int32) ∨ own_i p = (2 : Int32) ∨ own_i p = (3 : Int32) ∨ own_i p = (4 : Int32) := by
  have h : (own_i p).toInt = (p &&& 2147483647).toInt % 5 := by
    unfold own_i
    rw [irem_eq_mod]
    exact (c_irem _ 5 5 (by decide)).1 (c_and p 2147483647 (by decide)).1
  simp only [← Int32.toInt_inj, show (0 : Int32).toInt = 0 from rfl, show (1 : Int32).toInt = 1 from rfl, show (2 : Int32).toInt = 2 from rfl, show (3 : Int32).toInt = 3 from rfl, show (4 : Int32).toInt = 4 from rfl]
  omega
theorem own_ibc (p : Int32) (h : p = (0 : Int32) ∨ p = (1 : Int32) ∨ p = (2 : Int32) ∨ p = (3 : Int32) ∨ p = (4 : Int32)) : (¬ p < 0 ∧ p < (8 : Int32)) ∧ (¬ (p + (1 : Int32)) < 0 ∧ (p + (1 : Int32)) < (8 : Int32)) ∧ (¬ (p + (2 : Int32)) < 0 ∧ (p + (2 : Int32)) < (8 : Int32)) ∧ (¬ (p + (3 : Int32)) < 0 ∧ (p + (3 : Int32)) < (8 : Int32)) := by
  rcases h with rfl | rfl | rfl | rfl | rfl <;> decide
theorem own_bybv (y : BitVec 32) : ((y.signExtend 8).signExtend 32 &&& 255#32) = (y &&& 255#32) := by
  apply BitVec.eq_of_getLsbD_eq
  intro i hi
  have : i = 0 ∨ i = 1 ∨ i = 2 ∨ i = 3 ∨ i = 4 ∨ i = 5 ∨ i = 6 ∨ i = 7 ∨ i = 8 ∨ i = 9 ∨ i = 10 ∨ i = 11 ∨ i = 12 ∨ i = 13 ∨ i = 14 ∨ i = 15 ∨ i = 16 ∨ i = 17 ∨ i = 18 ∨ i = 19 ∨ i = 20 ∨ i = 21 ∨ i = 22 ∨ i = 23 ∨ i = 24 ∨ i = 25 ∨ i = 26 ∨ i = 27 ∨ i = 28 ∨ i = 29 ∨ i = 30 ∨ i = 31 := by omega
  rcases this with rfl | rfl | rfl | rfl | rfl | rfl | rfl | rfl | rfl | rfl | rfl | rfl | rfl | rfl | rfl | rfl | rfl | rfl | rfl | rfl | rfl | rfl | rfl | rfl | rfl | rfl | rfl | rfl | rfl | rfl | rfl | rfl <;> simp [BitVec.getElem_signExtend]
theorem own_by255 (y : Int32) : (own_by y &&& (255 : Int32)).toBitVec = y.toBitVec &&& 255#32 := by
  show ((((((y.toBitVec.signExtend 8).signExtend 32)).signExtend 8).signExtend 32) &&& 255#32) = _
  rw [own_bybv]
  exact own_bybv _
theorem own_joinbv (x : BitVec 32) : ((((x.sshiftRight 24 &&& 255#32) <<< 24) ||| ((x.sshiftRight 16 &&& 255#32) <<< 16) ||| ((x.sshiftRight 8 &&& 255#32) <<< 8)) ||| (x &&& 255#32)) = x := by
  apply BitVec.eq_of_getLsbD_eq
  intro i hi
  have : i = 0 ∨ i = 1 ∨ i = 2 ∨ i = 3 ∨ i = 4 ∨ i = 5 ∨ i = 6 ∨ i = 7 ∨ i = 8 ∨ i = 9 ∨ i = 10 ∨ i = 11 ∨ i = 12 ∨ i = 13 ∨ i = 14 ∨ i = 15 ∨ i = 16 ∨ i = 17 ∨ i = 18 ∨ i = 19 ∨ i = 20 ∨ i = 21 ∨ i = 22 ∨ i = 23 ∨ i = 24 ∨ i = 25 ∨ i = 26 ∨ i = 27 ∨ i = 28 ∨ i = 29 ∨ i = 30 ∨ i = 31 := by omega
  rcases this with rfl | rfl | rfl | rfl | rfl | rfl | rfl | rfl | rfl | rfl | rfl | rfl | rfl | rfl | rfl | rfl | rfl | rfl | rfl | rfl | rfl | rfl | rfl | rfl | rfl | rfl | rfl | rfl | rfl | rfl | rfl | rfl <;> simp [BitVec.getElem_sshiftRight]
theorem own_join (v : Int32) : ((((own_by (own_ar v (24 : Int32)) &&& (255 : Int32)) <<< ((24 : Int32) &&& 31)) ||| ((own_by (own_ar v (16 : Int32)) &&& (255 : Int32)) <<< ((16 : Int32) &&& 31)) ||| ((own_by (own_ar v (8 : Int32)) &&& (255 : Int32)) <<< ((8 : Int32) &&& 31))) ||| (own_by v &&& (255 : Int32))) = v := by
  apply Int32.toBitVec_inj.mp
  show ((((own_by (own_ar v (24 : Int32)) &&& (255 : Int32)).toBitVec <<< 24) ||| ((own_by (own_ar v (16 : Int32)) &&& (255 : Int32)).toBitVec <<< 16) ||| ((own_by (own_ar v (8 : Int32)) &&& (255 : Int32)).toBitVec <<< 8)) ||| (own_by v &&& (255 : Int32)).toBitVec) = v.toBitVec
  rw [own_by255, own_by255, own_by255, own_by255]
  exact own_joinbv v.toBitVec
theorem own_s4get (f : Nat → Int32) (p a b c d : Int32) (h : p = (0 : Int32) ∨ p = (1 : Int32) ∨ p = (2 : Int32) ∨ p = (3 : Int32) ∨ p = (4 : Int32)) : own_s4 f p a b c d p.toNatClampNeg = a ∧ own_s4 f p a b c d (p + (1 : Int32)).toNatClampNeg = b ∧ own_s4 f p a b c d (p + (2 : Int32)).toNatClampNeg = c ∧ own_s4 f p a b c d (p + (3 : Int32)).toNatClampNeg = d := by
  rcases h with rfl | rfl | rfl | rfl | rfl <;> exact ⟨rfl, rfl, rfl, rfl⟩
theorem own_back (f : Nat → Int32) (p v : Int32) (h : p = (0 : Int32) ∨ p = (1 : Int32) ∨ p = (2 : Int32) ∨ p = (3 : Int32) ∨ p = (4 : Int32)) : own_bk (own_set4 f p v) p = v := by
  obtain ⟨h1, h2, h3, h4⟩ := own_s4get f p (own_by (own_ar v (24 : Int32))) (own_by (own_ar v (16 : Int32))) (own_by (own_ar v (8 : Int32))) (own_by v) h
  unfold own_bk own_set4
  rw [h1, h2, h3, h4]
  exact own_join v
theorem own_s4keeps (f : Nat → Int32) (p a b c d j : Int32) (h : p = (0 : Int32) ∨ p = (1 : Int32) ∨ p = (2 : Int32) ∨ p = (3 : Int32) ∨ p = (4 : Int32)) (hj : j = (0 : Int32) ∨ j = (1 : Int32) ∨ j = (2 : Int32) ∨ j = (3 : Int32) ∨ j = (4 : Int32) ∨ j = (5 : Int32) ∨ j = (6 : Int32) ∨ j = (7 : Int32)) : ((¬ j < p) ∧ j < (p + (4 : Int32))) ∨ own_s4 f p a b c d j.toNatClampNeg = f j.toNatClampNeg := by
  rcases h with rfl | rfl | rfl | rfl | rfl <;> rcases hj with rfl | rfl | rfl | rfl | rfl | rfl | rfl | rfl <;> first | exact Or.inl (by decide) | exact Or.inr rfl
theorem own_keeps (f : Nat → Int32) (p v j : Int32) (h : p = (0 : Int32) ∨ p = (1 : Int32) ∨ p = (2 : Int32) ∨ p = (3 : Int32) ∨ p = (4 : Int32)) (hj : j = (0 : Int32) ∨ j = (1 : Int32) ∨ j = (2 : Int32) ∨ j = (3 : Int32) ∨ j = (4 : Int32) ∨ j = (5 : Int32) ∨ j = (6 : Int32) ∨ j = (7 : Int32)) : ¬ own_kept (own_set4 f p v) f j p = (0 : Int32) := by
  unfold own_kept
  rw [if_pos]
  · decide
  · unfold own_set4; exact own_s4keeps f p _ _ _ _ j h hj
theorem d1_0 : decode prog_35_method_2_code 0 = .ok (.aload_n 0, 1) := by decide +kernel
theorem d1_1 : decode prog_35_method_2_code 1 = .ok (.invokespecial 7, 3) := by decide +kernel
theorem d1_4 : decode prog_35_method_2_code 4 = .ok (.aload_n 0, 1) := by decide +kernel
theorem d1_5 : decode prog_35_method_2_code 5 = .ok (.iload_n 1, 1) := by decide +kernel
theorem d1_6 : decode prog_35_method_2_code 6 = .ok (.newarray .byte, 2) := by decide +kernel
theorem d1_8 : decode prog_35_method_2_code 8 = .ok (.putfield 12, 3) := by decide +kernel
theorem d1_11 : decode prog_35_method_2_code 11 = .ok (.return_, 1) := by decide +kernel
theorem pn_ByteBuilder : plainName "com/example/geogauge/geogauge/data/ByteBuilder" = true := by first | (simp [plainName, overriddenIn]; done) | decide +kernel
theorem ef_1 (m : MethodId) (x0 : Addr) (x1 : Int32) : entryFrame m #[(.ref x0), (.int x1)] 2 = mkF m 0 #[.val (.ref x0), .val (.int x1)] [] := by first | (simp [entryFrame, mkF, argsToLocals, Value.category]; done) | rfl
def Q1 (Z : State) (a1 : Addr) (p2 : Int32) (h0 : Heap) (n0 : Nat) (v : Option Value) (h : Heap) (L : List Loc) : Prop := v = none ∧ Fr n0 L ∧ Keep h0 h [a1] ∧ Exa Z h a1 "com/example/geogauge/geogauge/data/ByteBuilder" ∧ ∃ k : ClassId, Fld Z h a1 "com/example/geogauge/geogauge/data/ByteBuilder" "bytes" "[B" (.ref h0.size) ∧ Fld Z h a1 "com/example/geogauge/geogauge/data/ByteBuilder" "length" "I" (.int (0 : Int32)) ∧ Arv Z h h0.size k .byte (8 : Int32) (own_vs own_zz) (.int (0 : Int32))
set_option maxRecDepth 65536 in
set_option maxHeartbeats 40000000 in
theorem rm1 (l : Launch) (Z : State) (a0 : Array Value) (hw : ∀ d ∈ tables_1, d.before a0 Z = true) (ws : List Jvm.Cond) (a1 : Addr) (p2 : Int32) (h0 : Heap) (n0 : Nat) (Z0 : n0 ≤ h0.size) (hp2 : p2 = (8 : Int32)) (E0 : Exa Z h0 a1 "com/example/geogauge/geogauge/data/ByteBuilder") (F0_0 : Fld Z h0 a1 "com/example/geogauge/geogauge/data/ByteBuilder" "bytes" "[B" .null) (F0_1 : Fld Z h0 a1 "com/example/geogauge/geogauge/data/ByteBuilder" "length" "I" (.int (0 : Int32))) (g_a1 : n0 ≤ a1) :
    MetFree l (⟨"com/example/geogauge/geogauge/data/ByteBuilder", "<init>", "(I)V"⟩ : MethodName) (head1 (Jvm.Cond.code (⟨"com/example/geogauge/geogauge/data/ByteBuilder", "<init>", "(I)V"⟩ : MethodName) prog_35_method_2_code 2 none :: ws) ({ frames := 1, cells := 1, slots := 8, locals := 12 } : Room)) (fun a U => a = #[(.ref a1), (.int p2)] ∧ Z.Warmed39 U.vm ∧ U.heap = h0) (fun _ _ _ _ _ => True) (fun _ U o U' => ∃ v L, o = .returned v ∧ Q1 Z a1 p2 h0 n0 v U'.heap L ∧ FrameEnd U o U' L ({ frames := 1, cells := 1, slots := 8, locals := 12 } : Room).cells ({ frames := 1, cells := 1, slots := 8, locals := 12 } : Room).slots) := by
  refine MetFree.of_bodySF (plainFor_of_name pn_ByteBuilder) hisR ?_
  intro p e s m args below meth c s₁ Bd hml0 hP hK
  obtain ⟨rfl, hZ, hh⟩ := hP
  have hx := Bd.exec
  have hby := Bd.bytes
  have hml : c.maxLocals = 2 := hml0
  have hown : s.vm.findClass "com/example/geogauge/geogauge/data/ByteBuilder" = some m.cls := findClass_of_methodNamed Bd.named
  have hnm := (name_of_methodNamed Bd.named Bd.method).1
  have X0 : Stand p l e ({ frames := 1, cells := 1, slots := 8, locals := 12 } : Room) s m #[(.ref a1), (.int p2)] below meth c s₁ [] 0 0 := Stand.of_body Bd
  have e0 : s₁.heap = h0 := by rw [← hh, Bd.state]; rfl
  have N0 := Fr.nil n0
  refine Gd.out (Gd.st (fun t k => castTop (ef_1 m a1 p2) k) ?_)
  subst hp2
  show Gd p.tables e below _ (s₁.setTop (mkF m 0 #[.val (.ref a1), .val (.int (8 : Int32))] []))
  refine Gd.st (fun _ k => XS.aloadN X0.here hx rfl (hb hby d1_0) rfl rfl k) ?_
  show Gd p.tables e below _ (s₁.setTop (mkF m 1 #[.val (.ref a1), .val (.int (8 : Int32))] [(.ref a1)]))
  obtain ⟨T1, X1, e1, st1⟩ := initO X0 hx hZ hown (hw _ (List.mem_of_getElem? (i := 8) rfl)) (hw _ (List.mem_of_getElem? (i := 9) rfl)) (hw _ (List.mem_of_getElem? (i := 10) rfl)) e0 (g := (mkF m 1 #[.val (.ref a1), .val (.int (8 : Int32))] [(.ref a1)])) rfl (by rw [hml]; rfl) rfl (hb hby d1_1) (by decide) (W := 0) (by show 2 * 0 + _ ≤ _; exact Nat.le_of_eq rfl) (by decide)
  refine Gd.st st1 ?_
  show Gd p.tables e below _ (T1.setTop (mkF m 4 #[.val (.ref a1), .val (.int (8 : Int32))] []))
  refine Gd.st (fun _ k => XS.aloadN X1.here hx rfl (hb hby d1_4) rfl rfl k) ?_
  show Gd p.tables e below _ (T1.setTop (mkF m 5 #[.val (.ref a1), .val (.int (8 : Int32))] [(.ref a1)]))
  refine Gd.st (fun _ k => XS.iloadN X1.here hx rfl (hb hby d1_5) rfl k) ?_
  show Gd p.tables e below _ (T1.setTop (mkF m 6 #[.val (.ref a1), .val (.int (8 : Int32))] [(.int (8 : Int32)), (.ref a1)]))
  obtain ⟨T2, h2, k2, X2, e2, E2, A2, st2⟩ := newP X1 hx hZ (hw _ (List.mem_of_getElem? (i := 1) rfl)) e1 (g := (mkF m 6 #[.val (.ref a1), .val (.int (8 : Int32))] [(.int (8 : Int32)), (.ref a1)])) rfl (hb hby d1_6) rfl (by decide) (cap := 8) (by decide) (by decide) (by decide) (by decide)
  obtain ⟨b2, g2⟩ : ∃ z, z = h0.size := ⟨_, rfl⟩
  rw [← g2] at A2 st2
  refine Gd.st st2 ?_
  have ne_a1_b2 : a1 ≠ b2 := Nat.ne_of_lt (Nat.lt_of_lt_of_le E0.lt (Nat.le_of_eq g2.symm))
  have g_b2 : n0 ≤ b2 := Nat.le_trans Z0 (Nat.le_of_eq g2.symm)
  have sz_b2 : h0.size ≤ b2 := Nat.le_trans (Keep.refl h0 [a1]).1 (Nat.le_of_eq g2.symm)
  have Z3 : n0 ≤ h2.size := Nat.le_trans Z0 E2.1
  have K4 : Keep h0 h2 [a1] := (Keep.refl h0 [a1]).ext E2
  have V_b2 : Arv Z h2 b2 k2 .byte (8 : Int32) [(.int (0 : Int32)), (.int (0 : Int32)), (.int (0 : Int32)), (.int (0 : Int32)), (.int (0 : Int32)), (.int (0 : Int32)), (.int (0 : Int32)), (.int (0 : Int32))] (.int (0 : Int32)) := (Arv.new A2 (by decide)).pad (pad_rep [] (.int (0 : Int32)) 8)
  show Gd p.tables e below _ (T2.setTop (mkF m 8 #[.val (.ref a1), .val (.int (8 : Int32))] [(.ref b2), (.ref a1)]))
  have q5 := (F0_0.ext E2)
  have q6 := (E0.ext E2)
  obtain ⟨T7, h7, X7, e7, W7, st7⟩ := putF X2 hx hZ hown (host := "") (Or.inl (hw _ (List.mem_of_getElem? (i := 11) rfl))) Via.refl e2 q5 q6 (Or.inl (hw _ (List.mem_of_getElem? (i := 12) rfl))) (hw _ (List.mem_of_getElem? (i := 3) rfl)) (ty := (.array .byte)) (by decide) rfl rfl (g := (mkF m 8 #[.val (.ref a1), .val (.int (8 : Int32))] [(.ref b2), (.ref a1)])) rfl rfl (hb hby d1_8)
  refine Gd.st st7 ?_
  have Fw7 := q5.same W7
  have N7 := Fr.snoc X7 N0 g_a1
  have Z8 : n0 ≤ h7.size := Nat.le_trans Z3 (Keep.of_wr W7).1
  have K9 : Keep h0 h7 [a1] := K4.wr W7 (Or.inl (List.mem_of_getElem? (i := 0) rfl))
  show Gd p.tables e below _ (T7.setTop (mkF m 11 #[.val (.ref a1), .val (.int (8 : Int32))] []))
  obtain ⟨fs, hr, hrun, hended, hW, hsame⟩ := X7.leave (v := none) (fun _ => rfl) Bd.notSynchronized
  have q10 := (q6.wr W7)
  have q11 := (Fld.other W7 (F0_1.ext E2) (Or.inr (slot_ne (Or.inl (hw _ (List.mem_of_getElem? (i := 28) rfl))) (Or.inl (hw _ (List.mem_of_getElem? (i := 12) rfl))) (by decide) (t := .int) (t' := (.array .byte)) (by decide) (by decide))))
  have q12 := (V_b2.other W7 (Ne.symm ne_a1_b2))
  refine Gd.mk (o := .returned (none)) (X7.returnOut hx Bd.returns (hb hby d1_11) hr) ⟨hrun, hended, _, _, rfl, ?_, ⟨_, rfl⟩, hW, hsame.mono (by decide) (by decide)⟩
  show Q1 Z a1 (8 : Int32) h0 n0 _ T7.heap _
  rw [e7]
  exact ⟨rfl, N7, K9, q10, k2, (by rw [← g2]; exact Fw7), q11, (by rw [← g2]; exact q12)⟩
theorem ef_5 (m : MethodId) (x0 : Addr) (x1 : Int32) : entryFrame m #[(.ref x0), (.int x1)] 2 = mkF m 0 #[.val (.ref x0), .val (.int x1)] [] := by first | (simp [entryFrame, mkF, argsToLocals, Value.category]; done) | rfl
theorem d5_0 : decode prog_35_method_23_code 0 = .ok (.aload_n 0, 1) := by decide +kernel
theorem d5_1 : decode prog_35_method_23_code 1 = .ok (.getfield 19, 3) := by decide +kernel
theorem d5_4 : decode prog_35_method_23_code 4 = .ok (.iload_n 1, 1) := by decide +kernel
theorem d5_5 : decode prog_35_method_23_code 5 = .ok (.iadd, 1) := by decide +kernel
theorem d5_6 : decode prog_35_method_23_code 6 = .ok (.aload_n 0, 1) := by decide +kernel
theorem d5_7 : decode prog_35_method_23_code 7 = .ok (.getfield 12, 3) := by decide +kernel
theorem d5_10 : decode prog_35_method_23_code 10 = .ok (.arraylength, 1) := by decide +kernel
theorem d5_11 : decode prog_35_method_23_code 11 = .ok (.if_icmp .le 30, 3) := by decide +kernel
theorem d5_41 : decode prog_35_method_23_code 41 = .ok (.return_, 1) := by decide +kernel
def Q5 (Z : State) (a1 : Addr) (p2 : Int32) (a3 : Addr) (k3 : ClassId) (f3 : Nat → Int32) (h0 : Heap) (n0 : Nat) (v : Option Value) (h : Heap) (L : List Loc) : Prop := v = none ∧ Fr n0 L ∧ h = h0
set_option maxRecDepth 65536 in
set_option maxHeartbeats 40000000 in
theorem rm5 (l : Launch) (Z : State) (a0 : Array Value) (hw : ∀ d ∈ tables_1, d.before a0 Z = true) (ws : List Jvm.Cond) (a1 : Addr) (p2 : Int32) (a3 : Addr) (k3 : ClassId) (f3 : Nat → Int32) (h0 : Heap) (n0 : Nat) (Z0 : n0 ≤ h0.size) (hp2 : p2 = (8 : Int32)) (F0_0 : Fld Z h0 a1 "com/example/geogauge/geogauge/data/ByteBuilder" "bytes" "[B" (.ref a3)) (F0_1 : Fld Z h0 a1 "com/example/geogauge/geogauge/data/ByteBuilder" "length" "I" (.int (0 : Int32))) (V3 : Arv Z h0 a3 k3 .byte (8 : Int32) (own_vs f3) (.int (0 : Int32))) :
    MetFree l (⟨"com/example/geogauge/geogauge/data/ByteBuilder", "ensureRoom", "(I)V"⟩ : MethodName) (head1 (Jvm.Cond.code (⟨"com/example/geogauge/geogauge/data/ByteBuilder", "ensureRoom", "(I)V"⟩ : MethodName) prog_35_method_23_code 2 none :: ws) ({ frames := 0, cells := 0, slots := 0, locals := 0 } : Room)) (fun a U => a = #[(.ref a1), (.int p2)] ∧ Z.Warmed39 U.vm ∧ U.heap = h0) (fun _ _ _ _ _ => True) (fun _ U o U' => ∃ v L, o = .returned v ∧ Q5 Z a1 p2 a3 k3 f3 h0 n0 v U'.heap L ∧ FrameEnd U o U' L ({ frames := 0, cells := 0, slots := 0, locals := 0 } : Room).cells ({ frames := 0, cells := 0, slots := 0, locals := 0 } : Room).slots) := by
  refine MetFree.of_bodySF (plainFor_of_name pn_ByteBuilder) hisR ?_
  intro p e s m args below meth c s₁ Bd hml0 hP hK
  obtain ⟨rfl, hZ, hh⟩ := hP
  have hx := Bd.exec
  have hby := Bd.bytes
  have hml : c.maxLocals = 2 := hml0
  have hown : s.vm.findClass "com/example/geogauge/geogauge/data/ByteBuilder" = some m.cls := findClass_of_methodNamed Bd.named
  have hnm := (name_of_methodNamed Bd.named Bd.method).1
  have X0 : Stand p l e ({ frames := 0, cells := 0, slots := 0, locals := 0 } : Room) s m #[(.ref a1), (.int p2)] below meth c s₁ [] 0 0 := Stand.of_body Bd
  have e0 : s₁.heap = h0 := by rw [← hh, Bd.state]; rfl
  have N0 := Fr.nil n0
  refine Gd.out (Gd.st (fun t k => castTop (ef_5 m a1 p2) k) ?_)
  subst hp2
  show Gd p.tables e below _ (s₁.setTop (mkF m 0 #[.val (.ref a1), .val (.int (8 : Int32))] []))
  refine Gd.st (fun _ k => XS.aloadN X0.here hx rfl (hb hby d5_0) rfl rfl k) ?_
  show Gd p.tables e below _ (s₁.setTop (mkF m 1 #[.val (.ref a1), .val (.int (8 : Int32))] [(.ref a1)]))
  obtain ⟨T1, X1, e1, st1⟩ := getF X0 hx hZ hown (host := "") (Or.inl (hw _ (List.mem_of_getElem? (i := 27) rfl))) Via.refl e0 F0_1 (g := (mkF m 1 #[.val (.ref a1), .val (.int (8 : Int32))] [(.ref a1)])) rfl rfl (hb hby d5_1)
  refine Gd.st st1 ?_
  show Gd p.tables e below _ (T1.setTop (mkF m 4 #[.val (.ref a1), .val (.int (8 : Int32))] [(.int (0 : Int32))]))
  refine Gd.st (fun _ k => XS.iloadN X1.here hx rfl (hb hby d5_4) rfl k) ?_
  show Gd p.tables e below _ (T1.setTop (mkF m 5 #[.val (.ref a1), .val (.int (8 : Int32))] [(.int (8 : Int32)), (.int (0 : Int32))]))
  refine Gd.st (fun _ k => XS.iadd X1.here hx rfl (hb hby d5_5) rfl k) ?_
  show Gd p.tables e below _ (T1.setTop (mkF m 6 #[.val (.ref a1), .val (.int (8 : Int32))] [(.int ((0 : Int32) + (8 : Int32)))]))
  refine Gd.st (fun _ k => XS.aloadN X1.here hx rfl (hb hby d5_6) rfl rfl k) ?_
  show Gd p.tables e below _ (T1.setTop (mkF m 7 #[.val (.ref a1), .val (.int (8 : Int32))] [(.ref a1), (.int ((0 : Int32) + (8 : Int32)))]))
  obtain ⟨T2, X2, e2, st2⟩ := getF X1 hx hZ hown (host := "") (Or.inl (hw _ (List.mem_of_getElem? (i := 11) rfl))) Via.refl e1 F0_0 (g := (mkF m 7 #[.val (.ref a1), .val (.int (8 : Int32))] [(.ref a1), (.int ((0 : Int32) + (8 : Int32)))])) rfl rfl (hb hby d5_7)
  refine Gd.st st2 ?_
  show Gd p.tables e below _ (T2.setTop (mkF m 10 #[.val (.ref a1), .val (.int (8 : Int32))] [(.ref a3), (.int ((0 : Int32) + (8 : Int32)))]))
  obtain ⟨cl_3, Ar_3, q_3, S_3, N_3, H_3, G_3⟩ := id V3
  refine Gd.st (fun _ k => X2.arraylength hx (by rw [e2]; exact Ar_3.1) (State.isArrayOf_alike hZ.alike Ar_3.2.1) (g := (mkF m 10 #[.val (.ref a1), .val (.int (8 : Int32))] [(.ref a3), (.int ((0 : Int32) + (8 : Int32)))])) rfl rfl (hb hby d5_10) _ k) ?_
  rw [len_of S_3 N_3]
  show Gd p.tables e below _ (T2.setTop (mkF m 11 #[.val (.ref a1), .val (.int (8 : Int32))] [(.int (8 : Int32)), (.int ((0 : Int32) + (8 : Int32)))]))
  refine Gd.st (fun _ k => XS.icmpYes X2.here hx rfl (pc0 := 11) (pc' := 41) rfl (hb hby d5_11) rfl (flt (by decide)).2.2.2 (by decide) (by decide) k) ?_
  show Gd p.tables e below _ (T2.setTop (mkF m 41 #[.val (.ref a1), .val (.int (8 : Int32))] []))
  obtain ⟨fs, hr, hrun, hended, hW, hsame⟩ := X2.leave (v := none) (fun _ => rfl) Bd.notSynchronized
  refine Gd.mk (o := .returned (none)) (X2.returnOut hx Bd.returns (hb hby d5_41) hr) ⟨hrun, hended, _, _, rfl, ?_, ⟨_, rfl⟩, hW, hsame.mono (by decide) (by decide)⟩
  show Q5 Z a1 (8 : Int32) a3 k3 f3 h0 n0 _ T2.heap _
  rw [e2]
  exact ⟨rfl, N0, rfl⟩
theorem d4_0 : decode prog_35_method_8_code 0 = .ok (.aload_n 0, 1) := by decide +kernel
theorem d4_1 : decode prog_35_method_8_code 1 = .ok (.iload_n 3, 1) := by decide +kernel
theorem d4_2 : decode prog_35_method_8_code 2 = .ok (.invokevirtual 16, 3) := by decide +kernel
theorem d4_5 : decode prog_35_method_8_code 5 = .ok (.aload_n 1, 1) := by decide +kernel
theorem d4_6 : decode prog_35_method_8_code 6 = .ok (.iload_n 2, 1) := by decide +kernel
theorem d4_7 : decode prog_35_method_8_code 7 = .ok (.aload_n 0, 1) := by decide +kernel
theorem d4_8 : decode prog_35_method_8_code 8 = .ok (.getfield 12, 3) := by decide +kernel
theorem d4_11 : decode prog_35_method_8_code 11 = .ok (.aload_n 0, 1) := by decide +kernel
theorem d4_12 : decode prog_35_method_8_code 12 = .ok (.getfield 19, 3) := by decide +kernel
theorem d4_15 : decode prog_35_method_8_code 15 = .ok (.iload_n 3, 1) := by decide +kernel
theorem d4_16 : decode prog_35_method_8_code 16 = .ok (.invokestatic 66, 3) := by decide +kernel
theorem d4_19 : decode prog_35_method_8_code 19 = .ok (.aload_n 0, 1) := by decide +kernel
theorem d4_20 : decode prog_35_method_8_code 20 = .ok (.dup, 1) := by decide +kernel
theorem d4_21 : decode prog_35_method_8_code 21 = .ok (.getfield 19, 3) := by decide +kernel
theorem d4_24 : decode prog_35_method_8_code 24 = .ok (.iload_n 3, 1) := by decide +kernel
theorem d4_25 : decode prog_35_method_8_code 25 = .ok (.iadd, 1) := by decide +kernel
theorem d4_26 : decode prog_35_method_8_code 26 = .ok (.putfield 19, 3) := by decide +kernel
theorem d4_29 : decode prog_35_method_8_code 29 = .ok (.aload_n 0, 1) := by decide +kernel
theorem d4_30 : decode prog_35_method_8_code 30 = .ok (.areturn, 1) := by decide +kernel
theorem ef_4 (m : MethodId) (x0 : Addr) (x1 : Addr) (x2 : Int32) (x3 : Int32) : entryFrame m #[(.ref x0), (.ref x1), (.int x2), (.int x3)] 4 = mkF m 0 #[.val (.ref x0), .val (.ref x1), .val (.int x2), .val (.int x3)] [] := by first | (simp [entryFrame, mkF, argsToLocals, Value.category]; done) | rfl
theorem pd__I_V_4 : parseMethodDescriptor "(I)V" = some ⟨[.int], none⟩ := by decide +kernel
def Q4 (Z : State) (a1 : Addr) (a2 : Addr) (p3 : Int32) (p4 : Int32) (a3 : Addr) (k2 : ClassId) (f2 : Nat → Int32) (k3 : ClassId) (f3 : Nat → Int32) (h0 : Heap) (n0 : Nat) (v : Option Value) (h : Heap) (L : List Loc) : Prop := v = some (.ref a1) ∧ Fr n0 L ∧ Keep h0 h [a1, a3] ∧ Exa Z h a1 "com/example/geogauge/geogauge/data/ByteBuilder" ∧ Fld Z h a1 "com/example/geogauge/geogauge/data/ByteBuilder" "bytes" "[B" (.ref a3) ∧ Fld Z h a1 "com/example/geogauge/geogauge/data/ByteBuilder" "length" "I" (.int (8 : Int32)) ∧ Arv Z h a3 k3 .byte (8 : Int32) (own_vs f2) (.int (0 : Int32))
set_option maxRecDepth 65536 in
set_option maxHeartbeats 40000000 in
theorem rm4 (l : Launch) (Z : State) (a0 : Array Value) (hw : ∀ d ∈ tables_1, d.before a0 Z = true) (ws : List Jvm.Cond) (a1 : Addr) (a2 : Addr) (p3 : Int32) (p4 : Int32) (a3 : Addr) (k2 : ClassId) (f2 : Nat → Int32) (k3 : ClassId) (f3 : Nat → Int32) (h0 : Heap) (n0 : Nat) (Z0 : n0 ≤ h0.size) (hp3 : p3 = (0 : Int32)) (hp4 : p4 = (8 : Int32)) (E0 : Exa Z h0 a1 "com/example/geogauge/geogauge/data/ByteBuilder") (F0_0 : Fld Z h0 a1 "com/example/geogauge/geogauge/data/ByteBuilder" "bytes" "[B" (.ref a3)) (F0_1 : Fld Z h0 a1 "com/example/geogauge/geogauge/data/ByteBuilder" "length" "I" (.int (0 : Int32))) (V2 : Arv Z h0 a2 k2 .byte (8 : Int32) (own_vs f2) (.int (0 : Int32))) (V3 : Arv Z h0 a3 k3 .byte (8 : Int32) (own_vs f3) (.int (0 : Int32))) (ne31 : a3 ≠ a1) (ne23 : a2 ≠ a3) (g_a1 : n0 ≤ a1) (g_a3 : n0 ≤ a3) :
    MetFree l (⟨"com/example/geogauge/geogauge/data/ByteBuilder", "append", "([BII)Lcom/example/geogauge/geogauge/data/ByteBuilder;"⟩ : MethodName) (head1 (Jvm.Cond.code (⟨"com/example/geogauge/geogauge/data/ByteBuilder", "append", "([BII)Lcom/example/geogauge/geogauge/data/ByteBuilder;"⟩ : MethodName) prog_35_method_8_code 4 (some (.object "com/example/geogauge/geogauge/data/ByteBuilder")) :: ws) ({ frames := 1, cells := 0, slots := 0, locals := 18 } : Room)) (fun a U => a = #[(.ref a1), (.ref a2), (.int p3), (.int p4)] ∧ Z.Warmed39 U.vm ∧ U.heap = h0) (fun _ _ _ _ _ => True) (fun _ U o U' => ∃ v L, o = .returned v ∧ Q4 Z a1 a2 p3 p4 a3 k2 f2 k3 f3 h0 n0 v U'.heap L ∧ FrameEnd U o U' L ({ frames := 1, cells := 0, slots := 0, locals := 18 } : Room).cells ({ frames := 1, cells := 0, slots := 0, locals := 18 } : Room).slots) := by
  refine MetFree.of_bodySF (plainFor_of_name pn_ByteBuilder) hisR ?_
  intro p e s m args below meth c s₁ Bd hml0 hP hK
  obtain ⟨rfl, hZ, hh⟩ := hP
  have hx := Bd.exec
  have hby := Bd.bytes
  have hml : c.maxLocals = 4 := hml0
  have hown : s.vm.findClass "com/example/geogauge/geogauge/data/ByteBuilder" = some m.cls := findClass_of_methodNamed Bd.named
  have hnm := (name_of_methodNamed Bd.named Bd.method).1
  have X0 : Stand p l e ({ frames := 1, cells := 0, slots := 0, locals := 18 } : Room) s m #[(.ref a1), (.ref a2), (.int p3), (.int p4)] below meth c s₁ [] 0 0 := Stand.of_body Bd
  have e0 : s₁.heap = h0 := by rw [← hh, Bd.state]; rfl
  have N0 := Fr.nil n0
  refine Gd.out (Gd.st (fun t k => castTop (ef_4 m a1 a2 p3 p4) k) ?_)
  subst hp3 hp4
  show Gd p.tables e below _ (s₁.setTop (mkF m 0 #[.val (.ref a1), .val (.ref a2), .val (.int (0 : Int32)), .val (.int (8 : Int32))] []))
  refine Gd.st (fun _ k => XS.aloadN X0.here hx rfl (hb hby d4_0) rfl rfl k) ?_
  show Gd p.tables e below _ (s₁.setTop (mkF m 1 #[.val (.ref a1), .val (.ref a2), .val (.int (0 : Int32)), .val (.int (8 : Int32))] [(.ref a1)]))
  refine Gd.st (fun _ k => XS.iloadN X0.here hx rfl (hb hby d4_1) rfl k) ?_
  show Gd p.tables e below _ (s₁.setTop (mkF m 2 #[.val (.ref a1), .val (.ref a2), .val (.int (0 : Int32)), .val (.int (8 : Int32))] [(.int (8 : Int32)), (.ref a1)]))
  obtain ⟨cq1, q1, q1'⟩ := E0.cell
  obtain ⟨c2_1, r2_1, m2_1, -, -, q3_1, -, kP_1, hkP_1, hkPi_1⟩ := Cond.selects_spec (args := #[]) (mvT hZ (hw _ (List.mem_of_getElem? (i := 16) rfl)))
  have hfc_1 := findClass_of_methodNamed q3_1
  obtain ⟨_, _, ⟨T1, L1, k1, n1⟩, -, X1, ⟨Lc1, hQ1, l1, y1, z1⟩, st1⟩ := X0.privateBack hx (y := (⟨"com/example/geogauge/geogauge/data/ByteBuilder", "ensureRoom", "(I)V"⟩ : MethodName)) hown (mvT hZ (hw _ (List.mem_of_getElem? (i := 23) rfl))) (mvT hZ (hw _ (List.mem_of_getElem? (i := 24) rfl))) (selects_self_of_private (y := (⟨"com/example/geogauge/geogauge/data/ByteBuilder", "ensureRoom", "(I)V"⟩ : MethodName)) hfc_1 hkP_1 hkPi_1 (Cond.privateMethod_at (mvP hZ (hw _ (List.mem_of_getElem? (i := 25) rfl)) (args := #[]))) (mvT hZ (hw _ (List.mem_of_getElem? (i := 24) rfl))) (by decide)) (Cond.privateMethod_at (mvP hZ (hw _ (List.mem_of_getElem? (i := 25) rfl)) (args := #[]))) (mvT hZ (hw _ (List.mem_of_getElem? (i := 26) rfl))) (by decide) (backOf (W := 0) (rm5 l Z a0 hw [] a1 (8 : Int32) a3 k3 f3 h0 n0 Z0 rfl F0_0 F0_1 V3) hZ (hw _ (List.mem_of_getElem? (i := 26) rfl)) (hw _ (List.mem_of_getElem? (i := 4) rfl)) (by decide) (by decide)) (g := (mkF m 2 #[.val (.ref a1), .val (.ref a2), .val (.int (0 : Int32)), .val (.int (8 : Int32))] [(.int (8 : Int32)), (.ref a1)])) rfl (by rw [hml]; rfl) (Steps.refl _) (a := a1) (by rw [e0]; exact q1) q1' (argsL := [(.int (8 : Int32))]) (rest := []) (lenOf pd__I_V_4 rfl) rfl (by show 2 * 0 + _ ≤ _; exact Nat.le_of_eq rfl) (hb hby d4_2) (fun _ _ => ⟨rfl, e0, (by decide : 0 + 0 ≤ _), (by decide : 0 + 0 ≤ _)⟩)
  dsimp only [Pt.U, Pt.locs, Pt.cells, Pt.slots] at X1 l1 y1 z1 st1 hQ1
  simp only [Nat.add_zero, Nat.zero_add, Nat.reduceAdd] at y1 z1
  subst y1 z1
  obtain ⟨rfl, N1q, eh1⟩ := hQ1
  have N1 : Fr n0 L1 := by rw [l1]; exact Fr.app N0 N1q
  clear l1
  refine Gd.st (fun _ k => st1.trans k) ?_
  have e1 : T1.heap = h0 := eh1
  show Gd p.tables e below _ (T1.setTop (mkF m 5 #[.val (.ref a1), .val (.ref a2), .val (.int (0 : Int32)), .val (.int (8 : Int32))] []))
  refine Gd.st (fun _ k => XS.aloadN X1.here hx rfl (hb hby d4_5) rfl rfl k) ?_
  show Gd p.tables e below _ (T1.setTop (mkF m 6 #[.val (.ref a1), .val (.ref a2), .val (.int (0 : Int32)), .val (.int (8 : Int32))] [(.ref a2)]))
  refine Gd.st (fun _ k => XS.iloadN X1.here hx rfl (hb hby d4_6) rfl k) ?_
  show Gd p.tables e below _ (T1.setTop (mkF m 7 #[.val (.ref a1), .val (.ref a2), .val (.int (0 : Int32)), .val (.int (8 : Int32))] [(.int (0 : Int32)), (.ref a2)]))
  refine Gd.st (fun _ k => XS.aloadN X1.here hx rfl (hb hby d4_7) rfl rfl k) ?_
  show Gd p.tables e below _ (T1.setTop (mkF m 8 #[.val (.ref a1), .val (.ref a2), .val (.int (0 : Int32)), .val (.int (8 : Int32))] [(.ref a1), (.int (0 : Int32)), (.ref a2)]))
  obtain ⟨T2, X2, e2, st2⟩ := getF X1 hx hZ hown (host := "") (Or.inl (hw _ (List.mem_of_getElem? (i := 11) rfl))) Via.refl e1 F0_0 (g := (mkF m 8 #[.val (.ref a1), .val (.ref a2), .val (.int (0 : Int32)), .val (.int (8 : Int32))] [(.ref a1), (.int (0 : Int32)), (.ref a2)])) rfl rfl (hb hby d4_8)
  refine Gd.st st2 ?_
  show Gd p.tables e below _ (T2.setTop (mkF m 11 #[.val (.ref a1), .val (.ref a2), .val (.int (0 : Int32)), .val (.int (8 : Int32))] [(.ref a3), (.int (0 : Int32)), (.ref a2)]))
  refine Gd.st (fun _ k => XS.aloadN X2.here hx rfl (hb hby d4_11) rfl rfl k) ?_
  show Gd p.tables e below _ (T2.setTop (mkF m 12 #[.val (.ref a1), .val (.ref a2), .val (.int (0 : Int32)), .val (.int (8 : Int32))] [(.ref a1), (.ref a3), (.int (0 : Int32)), (.ref a2)]))
  obtain ⟨T3, X3, e3, st3⟩ := getF X2 hx hZ hown (host := "") (Or.inl (hw _ (List.mem_of_getElem? (i := 27) rfl))) Via.refl e2 F0_1 (g := (mkF m 12 #[.val (.ref a1), .val (.ref a2), .val (.int (0 : Int32)), .val (.int (8 : Int32))] [(.ref a1), (.ref a3), (.int (0 : Int32)), (.ref a2)])) rfl rfl (hb hby d4_12)
  refine Gd.st st3 ?_
  show Gd p.tables e below _ (T3.setTop (mkF m 15 #[.val (.ref a1), .val (.ref a2), .val (.int (0 : Int32)), .val (.int (8 : Int32))] [(.int (0 : Int32)), (.ref a3), (.int (0 : Int32)), (.ref a2)]))
  refine Gd.st (fun _ k => XS.iloadN X3.here hx rfl (hb hby d4_15) rfl k) ?_
  show Gd p.tables e below _ (T3.setTop (mkF m 16 #[.val (.ref a1), .val (.ref a2), .val (.int (0 : Int32)), .val (.int (8 : Int32))] [(.int (8 : Int32)), (.int (0 : Int32)), (.ref a3), (.int (0 : Int32)), (.ref a2)]))
  obtain ⟨T4, h4, L4, X4, e4, N4, K4, Vc4, st4⟩ := cpA X3 hx hZ hown (hw _ (List.mem_of_getElem? (i := 29) rfl)) (hw _ (List.mem_of_getElem? (i := 32) rfl)) (hw _ (List.mem_of_getElem? (i := 30) rfl)) (hw _ (List.mem_of_getElem? (i := 31) rfl)) e3 V2 V3 (Or.inl ⟨rfl, rfl⟩) (sp := (0 : Int32)) (dp := (0 : Int32)) (nn := (8 : Int32)) (by decide) (by decide) (by decide) (by decide) (by decide) rfl (Nat.le_of_ble_eq_true rfl) N1 g_a3 (g := (mkF m 16 #[.val (.ref a1), .val (.ref a2), .val (.int (0 : Int32)), .val (.int (8 : Int32))] [(.int (8 : Int32)), (.int (0 : Int32)), (.ref a3), (.int (0 : Int32)), (.ref a2)])) rfl (by rw [hml]; rfl) rfl (hb hby d4_16) (by decide) (W := 0) (by show 2 * 0 + _ ≤ _; exact Nat.le_of_eq rfl) (by decide)
  refine Gd.st st4 ?_
  have Vd4 : Arv Z h4 a3 k3 .byte (8 : Int32) (own_vs f2) (.int (0 : Int32)) := Vc4
  have Z5 : n0 ≤ h4.size := Nat.le_trans Z0 K4.1
  have K6 : Keep h0 h4 [a1, a3] := (Keep.refl h0 [a1, a3]).trans K4 (allS (Or.inl (List.mem_of_getElem? (i := 1) rfl)) all0)
  show Gd p.tables e below _ (T4.setTop (mkF m 19 #[.val (.ref a1), .val (.ref a2), .val (.int (0 : Int32)), .val (.int (8 : Int32))] []))
  refine Gd.st (fun _ k => XS.aloadN X4.here hx rfl (hb hby d4_19) rfl rfl k) ?_
  show Gd p.tables e below _ (T4.setTop (mkF m 20 #[.val (.ref a1), .val (.ref a2), .val (.int (0 : Int32)), .val (.int (8 : Int32))] [(.ref a1)]))
  refine Gd.st (fun _ k => XS.dup X4.here hx rfl (hb hby d4_20) rfl rfl k) ?_
  show Gd p.tables e below _ (T4.setTop (mkF m 21 #[.val (.ref a1), .val (.ref a2), .val (.int (0 : Int32)), .val (.int (8 : Int32))] [(.ref a1), (.ref a1)]))
  have q7 := (F0_1.keep K4 (ninS (Ne.symm ne31) nin0))
  obtain ⟨T8, X8, e8, st8⟩ := getF X4 hx hZ hown (host := "") (Or.inl (hw _ (List.mem_of_getElem? (i := 27) rfl))) Via.refl e4 q7 (g := (mkF m 21 #[.val (.ref a1), .val (.ref a2), .val (.int (0 : Int32)), .val (.int (8 : Int32))] [(.ref a1), (.ref a1)])) rfl rfl (hb hby d4_21)
  refine Gd.st st8 ?_
  show Gd p.tables e below _ (T8.setTop (mkF m 24 #[.val (.ref a1), .val (.ref a2), .val (.int (0 : Int32)), .val (.int (8 : Int32))] [(.int (0 : Int32)), (.ref a1)]))
  refine Gd.st (fun _ k => XS.iloadN X8.here hx rfl (hb hby d4_24) rfl k) ?_
  show Gd p.tables e below _ (T8.setTop (mkF m 25 #[.val (.ref a1), .val (.ref a2), .val (.int (0 : Int32)), .val (.int (8 : Int32))] [(.int (8 : Int32)), (.int (0 : Int32)), (.ref a1)]))
  refine Gd.st (fun _ k => XS.iadd X8.here hx rfl (hb hby d4_25) rfl k) ?_
  show Gd p.tables e below _ (T8.setTop (mkF m 26 #[.val (.ref a1), .val (.ref a2), .val (.int (0 : Int32)), .val (.int (8 : Int32))] [(.int (8 : Int32)), (.ref a1)]))
  have q9 := (E0.keep K4)
  obtain ⟨T10, h10, X10, e10, W10, st10⟩ := putF X8 hx hZ hown (host := "") (Or.inl (hw _ (List.mem_of_getElem? (i := 27) rfl))) Via.refl e8 q7 q9 (Or.inl (hw _ (List.mem_of_getElem? (i := 28) rfl))) (hw _ (List.mem_of_getElem? (i := 3) rfl)) (ty := .int) (by decide) rfl rfl (g := (mkF m 26 #[.val (.ref a1), .val (.ref a2), .val (.int (0 : Int32)), .val (.int (8 : Int32))] [(.int (8 : Int32)), (.ref a1)])) rfl rfl (hb hby d4_26)
  refine Gd.st st10 ?_
  have Fw10 := q7.same W10
  have N10 := Fr.snoc X10 N4 g_a1
  have Z11 : n0 ≤ h10.size := Nat.le_trans Z5 (Keep.of_wr W10).1
  have K12 : Keep h0 h10 [a1, a3] := K6.wr W10 (Or.inl (List.mem_of_getElem? (i := 0) rfl))
  show Gd p.tables e below _ (T10.setTop (mkF m 29 #[.val (.ref a1), .val (.ref a2), .val (.int (0 : Int32)), .val (.int (8 : Int32))] []))
  refine Gd.st (fun _ k => XS.aloadN X10.here hx rfl (hb hby d4_29) rfl rfl k) ?_
  show Gd p.tables e below _ (T10.setTop (mkF m 30 #[.val (.ref a1), .val (.ref a2), .val (.int (0 : Int32)), .val (.int (8 : Int32))] [(.ref a1)]))
  obtain ⟨fs, hr, hrun, hended, hW, hsame⟩ := X10.leave (v := some (.ref a1)) (fun h => by rw [Bd.returns] at h; cases h) Bd.notSynchronized
  have q13 := (q9.wr W10)
  have q14 := (Fld.other W10 (F0_0.keep K4 (ninS (Ne.symm ne31) nin0)) (Or.inr (slot_ne (Or.inl (hw _ (List.mem_of_getElem? (i := 12) rfl))) (Or.inl (hw _ (List.mem_of_getElem? (i := 28) rfl))) (by decide) (t := (.array .byte)) (t' := .int) (by decide) (by decide))))
  have q15 := (Vd4.other W10 ne31)
  refine Gd.mk (o := .returned (some (.ref a1))) (retA X10 hx Bd.returns rfl rfl (hb hby d4_30) hr) ⟨hrun, hended, _, _, rfl, ?_, ⟨_, rfl⟩, hW, hsame.mono (by decide) (by decide)⟩
  show Q4 Z a1 a2 (0 : Int32) (8 : Int32) a3 k2 f2 k3 f3 h0 n0 _ T10.heap _
  rw [e10]
  exact ⟨rfl, N10, K12, q13, q14, Fw10, q15⟩
theorem d3_0 : decode prog_35_method_7_code 0 = .ok (.aload_n 0, 1) := by decide +kernel
theorem d3_1 : decode prog_35_method_7_code 1 = .ok (.aload_n 1, 1) := by decide +kernel
theorem d3_2 : decode prog_35_method_7_code 2 = .ok (.iconst 0, 1) := by decide +kernel
theorem d3_3 : decode prog_35_method_7_code 3 = .ok (.aload_n 1, 1) := by decide +kernel
theorem d3_4 : decode prog_35_method_7_code 4 = .ok (.arraylength, 1) := by decide +kernel
theorem d3_5 : decode prog_35_method_7_code 5 = .ok (.invokevirtual 63, 3) := by decide +kernel
theorem d3_8 : decode prog_35_method_7_code 8 = .ok (.areturn, 1) := by decide +kernel
theorem ef_3 (m : MethodId) (x0 : Addr) (x1 : Addr) : entryFrame m #[(.ref x0), (.ref x1)] 2 = mkF m 0 #[.val (.ref x0), .val (.ref x1)] [] := by first | (simp [entryFrame, mkF, argsToLocals, Value.category]; done) | rfl
theorem pd_ByteBuilder__54 : parseMethodDescriptor "([BII)Lcom/example/geogauge/geogauge/data/ByteBuilder;" = some ⟨[(.array .byte), .int, .int], some (.object "com/example/geogauge/geogauge/data/ByteBuilder")⟩ := by decide +kernel
def Q3 (Z : State) (a1 : Addr) (a2 : Addr) (a3 : Addr) (k2 : ClassId) (f2 : Nat → Int32) (k3 : ClassId) (f3 : Nat → Int32) (h0 : Heap) (n0 : Nat) (v : Option Value) (h : Heap) (L : List Loc) : Prop := v = some (.ref a1) ∧ Fr n0 L ∧ Keep h0 h [a1, a3] ∧ Exa Z h a1 "com/example/geogauge/geogauge/data/ByteBuilder" ∧ Fld Z h a1 "com/example/geogauge/geogauge/data/ByteBuilder" "bytes" "[B" (.ref a3) ∧ Fld Z h a1 "com/example/geogauge/geogauge/data/ByteBuilder" "length" "I" (.int (8 : Int32)) ∧ Arv Z h a3 k3 .byte (8 : Int32) (own_vs f2) (.int (0 : Int32))
set_option maxRecDepth 65536 in
set_option maxHeartbeats 40000000 in
theorem rm3 (l : Launch) (Z : State) (a0 : Array Value) (hw : ∀ d ∈ tables_1, d.before a0 Z = true) (ws : List Jvm.Cond) (a1 : Addr) (a2 : Addr) (a3 : Addr) (k2 : ClassId) (f2 : Nat → Int32) (k3 : ClassId) (f3 : Nat → Int32) (h0 : Heap) (n0 : Nat) (Z0 : n0 ≤ h0.size) (E0 : Exa Z h0 a1 "com/example/geogauge/geogauge/data/ByteBuilder") (F0_0 : Fld Z h0 a1 "com/example/geogauge/geogauge/data/ByteBuilder" "bytes" "[B" (.ref a3)) (F0_1 : Fld Z h0 a1 "com/example/geogauge/geogauge/data/ByteBuilder" "length" "I" (.int (0 : Int32))) (V2 : Arv Z h0 a2 k2 .byte (8 : Int32) (own_vs f2) (.int (0 : Int32))) (V3 : Arv Z h0 a3 k3 .byte (8 : Int32) (own_vs f3) (.int (0 : Int32))) (ne31 : a3 ≠ a1) (ne23 : a2 ≠ a3) (g_a1 : n0 ≤ a1) (g_a3 : n0 ≤ a3) :
    MetFree l (⟨"com/example/geogauge/geogauge/data/ByteBuilder", "append", "([B)Lcom/example/geogauge/geogauge/data/ByteBuilder;"⟩ : MethodName) (head1 (Jvm.Cond.code (⟨"com/example/geogauge/geogauge/data/ByteBuilder", "append", "([B)Lcom/example/geogauge/geogauge/data/ByteBuilder;"⟩ : MethodName) prog_35_method_7_code 2 (some (.object "com/example/geogauge/geogauge/data/ByteBuilder")) :: ws) ({ frames := 2, cells := 0, slots := 0, locals := 33 } : Room)) (fun a U => a = #[(.ref a1), (.ref a2)] ∧ Z.Warmed39 U.vm ∧ U.heap = h0) (fun _ _ _ _ _ => True) (fun _ U o U' => ∃ v L, o = .returned v ∧ Q3 Z a1 a2 a3 k2 f2 k3 f3 h0 n0 v U'.heap L ∧ FrameEnd U o U' L ({ frames := 2, cells := 0, slots := 0, locals := 33 } : Room).cells ({ frames := 2, cells := 0, slots := 0, locals := 33 } : Room).slots) := by
  refine MetFree.of_bodySF (plainFor_of_name pn_ByteBuilder) hisR ?_
  intro p e s m args below meth c s₁ Bd hml0 hP hK
  obtain ⟨rfl, hZ, hh⟩ := hP
  have hx := Bd.exec
  have hby := Bd.bytes
  have hml : c.maxLocals = 2 := hml0
  have hown : s.vm.findClass "com/example/geogauge/geogauge/data/ByteBuilder" = some m.cls := findClass_of_methodNamed Bd.named
  have hnm := (name_of_methodNamed Bd.named Bd.method).1
  have X0 : Stand p l e ({ frames := 2, cells := 0, slots := 0, locals := 33 } : Room) s m #[(.ref a1), (.ref a2)] below meth c s₁ [] 0 0 := Stand.of_body Bd
  have e0 : s₁.heap = h0 := by rw [← hh, Bd.state]; rfl
  have N0 := Fr.nil n0
  refine Gd.out (Gd.st (fun t k => castTop (ef_3 m a1 a2) k) ?_)
  show Gd p.tables e below _ (s₁.setTop (mkF m 0 #[.val (.ref a1), .val (.ref a2)] []))
  refine Gd.st (fun _ k => XS.aloadN X0.here hx rfl (hb hby d3_0) rfl rfl k) ?_
  show Gd p.tables e below _ (s₁.setTop (mkF m 1 #[.val (.ref a1), .val (.ref a2)] [(.ref a1)]))
  refine Gd.st (fun _ k => XS.aloadN X0.here hx rfl (hb hby d3_1) rfl rfl k) ?_
  show Gd p.tables e below _ (s₁.setTop (mkF m 2 #[.val (.ref a1), .val (.ref a2)] [(.ref a2), (.ref a1)]))
  refine Gd.st (fun _ k => XS.iconst X0.here hx rfl (hb hby d3_2) k) ?_
  show Gd p.tables e below _ (s₁.setTop (mkF m 3 #[.val (.ref a1), .val (.ref a2)] [(.int (0 : Int32)), (.ref a2), (.ref a1)]))
  refine Gd.st (fun _ k => XS.aloadN X0.here hx rfl (hb hby d3_3) rfl rfl k) ?_
  show Gd p.tables e below _ (s₁.setTop (mkF m 4 #[.val (.ref a1), .val (.ref a2)] [(.ref a2), (.int (0 : Int32)), (.ref a2), (.ref a1)]))
  obtain ⟨cl_1, Ar_1, q_1, S_1, N_1, H_1, G_1⟩ := id V2
  refine Gd.st (fun _ k => X0.arraylength hx (by rw [e0]; exact Ar_1.1) (State.isArrayOf_alike hZ.alike Ar_1.2.1) (g := (mkF m 4 #[.val (.ref a1), .val (.ref a2)] [(.ref a2), (.int (0 : Int32)), (.ref a2), (.ref a1)])) rfl rfl (hb hby d3_4) _ k) ?_
  rw [len_of S_1 N_1]
  show Gd p.tables e below _ (s₁.setTop (mkF m 5 #[.val (.ref a1), .val (.ref a2)] [(.int (8 : Int32)), (.int (0 : Int32)), (.ref a2), (.ref a1)]))
  obtain ⟨cq2, kq2, q2a, q2b, q2c⟩ := isOf hZ e0 E0
  obtain ⟨_, _, ⟨T2, L2, k2, n2⟩, -, X2, ⟨Lc2, hQ2, l2, y2, z2⟩, st2⟩ := X0.virtualBack hx (y := (⟨"com/example/geogauge/geogauge/data/ByteBuilder", "append", "([BII)Lcom/example/geogauge/geogauge/data/ByteBuilder;"⟩ : MethodName)) (z := (⟨"com/example/geogauge/geogauge/data/ByteBuilder", "append", "([BII)Lcom/example/geogauge/geogauge/data/ByteBuilder;"⟩ : MethodName)) hown (mvT hZ (hw _ (List.mem_of_getElem? (i := 18) rfl))) (mvT hZ (hw _ (List.mem_of_getElem? (i := 19) rfl))) (notFace_of_selects (args := #[]) (mvT hZ (hw _ (List.mem_of_getElem? (i := 21) rfl)))) (mvT hZ (hw _ (List.mem_of_getElem? (i := 21) rfl))) (mvT hZ (hw _ (List.mem_of_getElem? (i := 20) rfl))) (by decide) (backOf (W := 0) (rm4 l Z a0 hw [] a1 a2 (0 : Int32) (8 : Int32) a3 k2 f2 k3 f3 h0 n0 Z0 rfl rfl E0 F0_0 F0_1 V2 V3 ne31 ne23 g_a1 g_a3) hZ (hw _ (List.mem_of_getElem? (i := 22) rfl)) (hw _ (List.mem_of_getElem? (i := 4) rfl)) (by decide) (by decide)) q2a q2c (g := (mkF m 5 #[.val (.ref a1), .val (.ref a2)] [(.int (8 : Int32)), (.int (0 : Int32)), (.ref a2), (.ref a1)])) rfl (by rw [hml]; rfl) (Steps.refl _) (argsL := [(.ref a2), (.int (0 : Int32)), (.int (8 : Int32))]) (rest := []) (lenOf pd_ByteBuilder__54 rfl) rfl (by show 2 * 0 + _ ≤ _; exact Nat.le_of_eq rfl) (hb hby d3_5) (fun _ _ => ⟨rfl, e0, (by decide : 0 + 0 ≤ _), (by decide : 0 + 0 ≤ _)⟩)
  dsimp only [Pt.U, Pt.locs, Pt.cells, Pt.slots] at X2 l2 y2 z2 st2 hQ2
  simp only [Nat.add_zero, Nat.zero_add, Nat.reduceAdd] at y2 z2
  subst y2 z2
  obtain ⟨rfl, N2q, K2, A2, F2_0, F2_1, V2⟩ := hQ2
  have N2 : Fr n0 L2 := by rw [l2]; exact Fr.app N0 N2q
  clear l2
  refine Gd.st (fun _ k => st2.trans k) ?_
  have Z3 : n0 ≤ T2.heap.size := Nat.le_trans Z0 K2.1
  have K4 : Keep h0 T2.heap [a1, a3] := (Keep.refl h0 [a1, a3]).trans K2 (allS (Or.inl (List.mem_of_getElem? (i := 0) rfl)) (allS (Or.inl (List.mem_of_getElem? (i := 1) rfl)) all0))
  show Gd p.tables e below _ (T2.setTop (mkF m 8 #[.val (.ref a1), .val (.ref a2)] [(.ref a1)]))
  obtain ⟨fs, hr, hrun, hended, hW, hsame⟩ := X2.leave (v := some (.ref a1)) (fun h => by rw [Bd.returns] at h; cases h) Bd.notSynchronized
  refine Gd.mk (o := .returned (some (.ref a1))) (retA X2 hx Bd.returns rfl rfl (hb hby d3_8) hr) ⟨hrun, hended, _, _, rfl, ?_, ⟨_, rfl⟩, hW, hsame.mono (by decide) (by decide)⟩
  show Q3 Z a1 a2 a3 k2 f2 k3 f3 h0 n0 _ T2.heap _
  exact ⟨rfl, N2, K4, A2, F2_0, F2_1, V2⟩
theorem d6_0 : decode prog_35_method_14_code 0 = .ok (.aload_n 0, 1) := by decide +kernel
theorem d6_1 : decode prog_35_method_14_code 1 = .ok (.getfield 12, 3) := by decide +kernel
theorem d6_4 : decode prog_35_method_14_code 4 = .ok (.iload_n 1, 1) := by decide +kernel
theorem d6_5 : decode prog_35_method_14_code 5 = .ok (.iload_n 2, 1) := by decide +kernel
theorem d6_6 : decode prog_35_method_14_code 6 = .ok (.bipush 24, 2) := by decide +kernel
theorem d6_8 : decode prog_35_method_14_code 8 = .ok (.ishr, 1) := by decide +kernel
theorem d6_9 : decode prog_35_method_14_code 9 = .ok (.i2b, 1) := by decide +kernel
theorem d6_10 : decode prog_35_method_14_code 10 = .ok (.bastore, 1) := by decide +kernel
theorem d6_11 : decode prog_35_method_14_code 11 = .ok (.aload_n 0, 1) := by decide +kernel
theorem d6_12 : decode prog_35_method_14_code 12 = .ok (.getfield 12, 3) := by decide +kernel
theorem d6_15 : decode prog_35_method_14_code 15 = .ok (.iload_n 1, 1) := by decide +kernel
theorem d6_16 : decode prog_35_method_14_code 16 = .ok (.iconst 1, 1) := by decide +kernel
theorem d6_17 : decode prog_35_method_14_code 17 = .ok (.iadd, 1) := by decide +kernel
theorem d6_18 : decode prog_35_method_14_code 18 = .ok (.iload_n 2, 1) := by decide +kernel
theorem d6_19 : decode prog_35_method_14_code 19 = .ok (.bipush 16, 2) := by decide +kernel
theorem d6_21 : decode prog_35_method_14_code 21 = .ok (.ishr, 1) := by decide +kernel
theorem d6_22 : decode prog_35_method_14_code 22 = .ok (.i2b, 1) := by decide +kernel
theorem d6_23 : decode prog_35_method_14_code 23 = .ok (.bastore, 1) := by decide +kernel
theorem d6_24 : decode prog_35_method_14_code 24 = .ok (.aload_n 0, 1) := by decide +kernel
theorem d6_25 : decode prog_35_method_14_code 25 = .ok (.getfield 12, 3) := by decide +kernel
theorem d6_28 : decode prog_35_method_14_code 28 = .ok (.iload_n 1, 1) := by decide +kernel
theorem d6_29 : decode prog_35_method_14_code 29 = .ok (.iconst 2, 1) := by decide +kernel
theorem d6_30 : decode prog_35_method_14_code 30 = .ok (.iadd, 1) := by decide +kernel
theorem d6_31 : decode prog_35_method_14_code 31 = .ok (.iload_n 2, 1) := by decide +kernel
theorem d6_32 : decode prog_35_method_14_code 32 = .ok (.bipush 8, 2) := by decide +kernel
theorem d6_34 : decode prog_35_method_14_code 34 = .ok (.ishr, 1) := by decide +kernel
theorem d6_35 : decode prog_35_method_14_code 35 = .ok (.i2b, 1) := by decide +kernel
theorem d6_36 : decode prog_35_method_14_code 36 = .ok (.bastore, 1) := by decide +kernel
theorem d6_37 : decode prog_35_method_14_code 37 = .ok (.aload_n 0, 1) := by decide +kernel
theorem d6_38 : decode prog_35_method_14_code 38 = .ok (.getfield 12, 3) := by decide +kernel
theorem d6_41 : decode prog_35_method_14_code 41 = .ok (.iload_n 1, 1) := by decide +kernel
theorem d6_42 : decode prog_35_method_14_code 42 = .ok (.iconst 3, 1) := by decide +kernel
theorem d6_43 : decode prog_35_method_14_code 43 = .ok (.iadd, 1) := by decide +kernel
theorem d6_44 : decode prog_35_method_14_code 44 = .ok (.iload_n 2, 1) := by decide +kernel
theorem d6_45 : decode prog_35_method_14_code 45 = .ok (.i2b, 1) := by decide +kernel
theorem d6_46 : decode prog_35_method_14_code 46 = .ok (.bastore, 1) := by decide +kernel
theorem d6_47 : decode prog_35_method_14_code 47 = .ok (.return_, 1) := by decide +kernel
theorem ef_6 (m : MethodId) (x0 : Addr) (x1 : Int32) (x2 : Int32) : entryFrame m #[(.ref x0), (.int x1), (.int x2)] 3 = mkF m 0 #[.val (.ref x0), .val (.int x1), .val (.int x2)] [] := by first | (simp [entryFrame, mkF, argsToLocals, Value.category]; done) | rfl
def Q6 (Z : State) (a1 : Addr) (p2 : Int32) (p3 : Int32) (a3 : Addr) (k3 : ClassId) (f3 : Nat → Int32) (h0 : Heap) (n0 : Nat) (v : Option Value) (h : Heap) (L : List Loc) : Prop := v = none ∧ Fr n0 L ∧ Keep h0 h [a3] ∧ Arv Z h a3 k3 .byte (8 : Int32) (own_vs (own_set4 f3 p2 p3)) (.int (0 : Int32))
set_option maxRecDepth 65536 in
set_option maxHeartbeats 40000000 in
theorem rm6 (l : Launch) (Z : State) (a0 : Array Value) (hw : ∀ d ∈ tables_1, d.before a0 Z = true) (ws : List Jvm.Cond) (a1 : Addr) (p2 : Int32) (p3 : Int32) (a3 : Addr) (k3 : ClassId) (f3 : Nat → Int32) (h0 : Heap) (n0 : Nat) (Z0 : n0 ≤ h0.size) (F0_0 : Fld Z h0 a1 "com/example/geogauge/geogauge/data/ByteBuilder" "bytes" "[B" (.ref a3)) (V3 : Arv Z h0 a3 k3 .byte (8 : Int32) (own_vs f3) (.int (0 : Int32))) (ne13 : a1 ≠ a3) (g_a3 : n0 ≤ a3) (hp : p2 = (0 : Int32) ∨ p2 = (1 : Int32) ∨ p2 = (2 : Int32) ∨ p2 = (3 : Int32) ∨ p2 = (4 : Int32)) :
    MetFree l (⟨"com/example/geogauge/geogauge/data/ByteBuilder", "setInt", "(II)V"⟩ : MethodName) (head1 (Jvm.Cond.code (⟨"com/example/geogauge/geogauge/data/ByteBuilder", "setInt", "(II)V"⟩ : MethodName) prog_35_method_14_code 3 none :: ws) ({ frames := 0, cells := 0, slots := 0, locals := 0 } : Room)) (fun a U => a = #[(.ref a1), (.int p2), (.int p3)] ∧ Z.Warmed39 U.vm ∧ U.heap = h0) (fun _ _ _ _ _ => True) (fun _ U o U' => ∃ v L, o = .returned v ∧ Q6 Z a1 p2 p3 a3 k3 f3 h0 n0 v U'.heap L ∧ FrameEnd U o U' L ({ frames := 0, cells := 0, slots := 0, locals := 0 } : Room).cells ({ frames := 0, cells := 0, slots := 0, locals := 0 } : Room).slots) := by
  refine MetFree.of_bodySF (plainFor_of_name pn_ByteBuilder) hisR ?_
  intro p e s m args below meth c s₁ Bd hml0 hP hK
  obtain ⟨rfl, hZ, hh⟩ := hP
  have hx := Bd.exec
  have hby := Bd.bytes
  have hml : c.maxLocals = 3 := hml0
  have hown : s.vm.findClass "com/example/geogauge/geogauge/data/ByteBuilder" = some m.cls := findClass_of_methodNamed Bd.named
  have hnm := (name_of_methodNamed Bd.named Bd.method).1
  have X0 : Stand p l e ({ frames := 0, cells := 0, slots := 0, locals := 0 } : Room) s m #[(.ref a1), (.int p2), (.int p3)] below meth c s₁ [] 0 0 := Stand.of_body Bd
  have e0 : s₁.heap = h0 := by rw [← hh, Bd.state]; rfl
  have N0 := Fr.nil n0
  refine Gd.out (Gd.st (fun t k => castTop (ef_6 m a1 p2 p3) k) ?_)
  show Gd p.tables e below _ (s₁.setTop (mkF m 0 #[.val (.ref a1), .val (.int p2), .val (.int p3)] []))
  refine Gd.st (fun _ k => XS.aloadN X0.here hx rfl (hb hby d6_0) rfl rfl k) ?_
  show Gd p.tables e below _ (s₁.setTop (mkF m 1 #[.val (.ref a1), .val (.int p2), .val (.int p3)] [(.ref a1)]))
  obtain ⟨T1, X1, e1, st1⟩ := getF X0 hx hZ hown (host := "") (Or.inl (hw _ (List.mem_of_getElem? (i := 11) rfl))) Via.refl e0 F0_0 (g := (mkF m 1 #[.val (.ref a1), .val (.int p2), .val (.int p3)] [(.ref a1)])) rfl rfl (hb hby d6_1)
  refine Gd.st st1 ?_
  show Gd p.tables e below _ (T1.setTop (mkF m 4 #[.val (.ref a1), .val (.int p2), .val (.int p3)] [(.ref a3)]))
  refine Gd.st (fun _ k => XS.iloadN X1.here hx rfl (hb hby d6_4) rfl k) ?_
  show Gd p.tables e below _ (T1.setTop (mkF m 5 #[.val (.ref a1), .val (.int p2), .val (.int p3)] [(.int p2), (.ref a3)]))
  refine Gd.st (fun _ k => XS.iloadN X1.here hx rfl (hb hby d6_5) rfl k) ?_
  show Gd p.tables e below _ (T1.setTop (mkF m 6 #[.val (.ref a1), .val (.int p2), .val (.int p3)] [(.int p3), (.int p2), (.ref a3)]))
  refine Gd.st (fun _ k => XS.bipush X1.here hx rfl (hb hby d6_6) k) ?_
  show Gd p.tables e below _ (T1.setTop (mkF m 8 #[.val (.ref a1), .val (.int p2), .val (.int p3)] [(.int (24 : Int32)), (.int p3), (.int p2), (.ref a3)]))
  refine Gd.st (fun _ k => XS.ishr X1.here hx rfl (hb hby d6_8) rfl k) ?_
  show Gd p.tables e below _ (T1.setTop (mkF m 9 #[.val (.ref a1), .val (.int p2), .val (.int p3)] [(.int (own_ar p3 (24 : Int32))), (.int p2), (.ref a3)]))
  refine Gd.st (fun _ k => XS.i2b X1.here hx rfl (hb hby d6_9) rfl k) ?_
  show Gd p.tables e below _ (T1.setTop (mkF m 10 #[.val (.ref a1), .val (.int p2), .val (.int p3)] [(.int ((own_ar p3 (24 : Int32)).toInt8.toInt32)), (.int p2), (.ref a3)]))
  obtain ⟨cl_2, Ar_2, q_2, S_2, N_2, H_2, G_2⟩ := id V3
  have hib_2 : ¬ p2 < 0 ∧ p2 < (8 : Int32) := (own_ibc p2 hp).1
  obtain ⟨T2, h2, X2, e2, W2, st2⟩ := stB X1 hx hZ e1 Ar_2 (j := p2) (inb_of S_2 hib_2) (g := (mkF m 10 #[.val (.ref a1), .val (.int p2), .val (.int p3)] [(.int ((own_ar p3 (24 : Int32)).toInt8.toInt32)), (.int p2), (.ref a3)])) rfl rfl (hb hby d6_10)
  refine Gd.st st2 ?_
  have Va_2 : Arv Z h2 a3 k3 .byte (8 : Int32) (own_vs (own_up f3 p2.toNatClampNeg (own_by (own_ar p3 (24 : Int32))))) (.int (0 : Int32)) := own_put Ar_2 q_2 S_2 N_2 H_2 G_2 W2 (own_lt _ hib_2)
  have N2 := Fr.snoc X2 N0 g_a3
  have Z3 : n0 ≤ h2.size := Nat.le_trans Z0 (Keep.of_wr W2).1
  have K4 : Keep h0 h2 [a3] := (Keep.refl h0 [a3]).wr W2 (Or.inl (List.mem_of_getElem? (i := 0) rfl))
  show Gd p.tables e below _ (T2.setTop (mkF m 11 #[.val (.ref a1), .val (.int p2), .val (.int p3)] []))
  refine Gd.st (fun _ k => XS.aloadN X2.here hx rfl (hb hby d6_11) rfl rfl k) ?_
  show Gd p.tables e below _ (T2.setTop (mkF m 12 #[.val (.ref a1), .val (.int p2), .val (.int p3)] [(.ref a1)]))
  have q5 := (F0_0.other W2 (Or.inl ne13))
  obtain ⟨T6, X6, e6, st6⟩ := getF X2 hx hZ hown (host := "") (Or.inl (hw _ (List.mem_of_getElem? (i := 11) rfl))) Via.refl e2 q5 (g := (mkF m 12 #[.val (.ref a1), .val (.int p2), .val (.int p3)] [(.ref a1)])) rfl rfl (hb hby d6_12)
  refine Gd.st st6 ?_
  show Gd p.tables e below _ (T6.setTop (mkF m 15 #[.val (.ref a1), .val (.int p2), .val (.int p3)] [(.ref a3)]))
  refine Gd.st (fun _ k => XS.iloadN X6.here hx rfl (hb hby d6_15) rfl k) ?_
  show Gd p.tables e below _ (T6.setTop (mkF m 16 #[.val (.ref a1), .val (.int p2), .val (.int p3)] [(.int p2), (.ref a3)]))
  refine Gd.st (fun _ k => XS.iconst X6.here hx rfl (hb hby d6_16) k) ?_
  show Gd p.tables e below _ (T6.setTop (mkF m 17 #[.val (.ref a1), .val (.int p2), .val (.int p3)] [(.int (1 : Int32)), (.int p2), (.ref a3)]))
  refine Gd.st (fun _ k => XS.iadd X6.here hx rfl (hb hby d6_17) rfl k) ?_
  show Gd p.tables e below _ (T6.setTop (mkF m 18 #[.val (.ref a1), .val (.int p2), .val (.int p3)] [(.int (p2 + (1 : Int32))), (.ref a3)]))
  refine Gd.st (fun _ k => XS.iloadN X6.here hx rfl (hb hby d6_18) rfl k) ?_
  show Gd p.tables e below _ (T6.setTop (mkF m 19 #[.val (.ref a1), .val (.int p2), .val (.int p3)] [(.int p3), (.int (p2 + (1 : Int32))), (.ref a3)]))
  refine Gd.st (fun _ k => XS.bipush X6.here hx rfl (hb hby d6_19) k) ?_
  show Gd p.tables e below _ (T6.setTop (mkF m 21 #[.val (.ref a1), .val (.int p2), .val (.int p3)] [(.int (16 : Int32)), (.int p3), (.int (p2 + (1 : Int32))), (.ref a3)]))
  refine Gd.st (fun _ k => XS.ishr X6.here hx rfl (hb hby d6_21) rfl k) ?_
  show Gd p.tables e below _ (T6.setTop (mkF m 22 #[.val (.ref a1), .val (.int p2), .val (.int p3)] [(.int (own_ar p3 (16 : Int32))), (.int (p2 + (1 : Int32))), (.ref a3)]))
  refine Gd.st (fun _ k => XS.i2b X6.here hx rfl (hb hby d6_22) rfl k) ?_
  show Gd p.tables e below _ (T6.setTop (mkF m 23 #[.val (.ref a1), .val (.int p2), .val (.int p3)] [(.int ((own_ar p3 (16 : Int32)).toInt8.toInt32)), (.int (p2 + (1 : Int32))), (.ref a3)]))
  obtain ⟨cl_7, Ar_7, q_7, S_7, N_7, H_7, G_7⟩ := id Va_2
  have hib_7 : ¬ (p2 + (1 : Int32)) < 0 ∧ (p2 + (1 : Int32)) < (8 : Int32) := (own_ibc p2 hp).2.1
  obtain ⟨T7, h7, X7, e7, W7, st7⟩ := stB X6 hx hZ e6 Ar_7 (j := (p2 + (1 : Int32))) (inb_of S_7 hib_7) (g := (mkF m 23 #[.val (.ref a1), .val (.int p2), .val (.int p3)] [(.int ((own_ar p3 (16 : Int32)).toInt8.toInt32)), (.int (p2 + (1 : Int32))), (.ref a3)])) rfl rfl (hb hby d6_23)
  refine Gd.st st7 ?_
  have Va_7 : Arv Z h7 a3 k3 .byte (8 : Int32) (own_vs (own_up (own_up f3 p2.toNatClampNeg (own_by (own_ar p3 (24 : Int32)))) (p2 + (1 : Int32)).toNatClampNeg (own_by (own_ar p3 (16 : Int32))))) (.int (0 : Int32)) := own_put Ar_7 q_7 S_7 N_7 H_7 G_7 W7 (own_lt _ hib_7)
  have N7 := Fr.snoc X7 N2 g_a3
  have Z8 : n0 ≤ h7.size := Nat.le_trans Z3 (Keep.of_wr W7).1
  have K9 : Keep h0 h7 [a3] := K4.wr W7 (Or.inl (List.mem_of_getElem? (i := 0) rfl))
  show Gd p.tables e below _ (T7.setTop (mkF m 24 #[.val (.ref a1), .val (.int p2), .val (.int p3)] []))
  refine Gd.st (fun _ k => XS.aloadN X7.here hx rfl (hb hby d6_24) rfl rfl k) ?_
  show Gd p.tables e below _ (T7.setTop (mkF m 25 #[.val (.ref a1), .val (.int p2), .val (.int p3)] [(.ref a1)]))
  have q10 := (q5.other W7 (Or.inl ne13))
  obtain ⟨T11, X11, e11, st11⟩ := getF X7 hx hZ hown (host := "") (Or.inl (hw _ (List.mem_of_getElem? (i := 11) rfl))) Via.refl e7 q10 (g := (mkF m 25 #[.val (.ref a1), .val (.int p2), .val (.int p3)] [(.ref a1)])) rfl rfl (hb hby d6_25)
  refine Gd.st st11 ?_
  show Gd p.tables e below _ (T11.setTop (mkF m 28 #[.val (.ref a1), .val (.int p2), .val (.int p3)] [(.ref a3)]))
  refine Gd.st (fun _ k => XS.iloadN X11.here hx rfl (hb hby d6_28) rfl k) ?_
  show Gd p.tables e below _ (T11.setTop (mkF m 29 #[.val (.ref a1), .val (.int p2), .val (.int p3)] [(.int p2), (.ref a3)]))
  refine Gd.st (fun _ k => XS.iconst X11.here hx rfl (hb hby d6_29) k) ?_
  show Gd p.tables e below _ (T11.setTop (mkF m 30 #[.val (.ref a1), .val (.int p2), .val (.int p3)] [(.int (2 : Int32)), (.int p2), (.ref a3)]))
  refine Gd.st (fun _ k => XS.iadd X11.here hx rfl (hb hby d6_30) rfl k) ?_
  show Gd p.tables e below _ (T11.setTop (mkF m 31 #[.val (.ref a1), .val (.int p2), .val (.int p3)] [(.int (p2 + (2 : Int32))), (.ref a3)]))
  refine Gd.st (fun _ k => XS.iloadN X11.here hx rfl (hb hby d6_31) rfl k) ?_
  show Gd p.tables e below _ (T11.setTop (mkF m 32 #[.val (.ref a1), .val (.int p2), .val (.int p3)] [(.int p3), (.int (p2 + (2 : Int32))), (.ref a3)]))
  refine Gd.st (fun _ k => XS.bipush X11.here hx rfl (hb hby d6_32) k) ?_
  show Gd p.tables e below _ (T11.setTop (mkF m 34 #[.val (.ref a1), .val (.int p2), .val (.int p3)] [(.int (8 : Int32)), (.int p3), (.int (p2 + (2 : Int32))), (.ref a3)]))
  refine Gd.st (fun _ k => XS.ishr X11.here hx rfl (hb hby d6_34) rfl k) ?_
  show Gd p.tables e below _ (T11.setTop (mkF m 35 #[.val (.ref a1), .val (.int p2), .val (.int p3)] [(.int (own_ar p3 (8 : Int32))), (.int (p2 + (2 : Int32))), (.ref a3)]))
  refine Gd.st (fun _ k => XS.i2b X11.here hx rfl (hb hby d6_35) rfl k) ?_
  show Gd p.tables e below _ (T11.setTop (mkF m 36 #[.val (.ref a1), .val (.int p2), .val (.int p3)] [(.int ((own_ar p3 (8 : Int32)).toInt8.toInt32)), (.int (p2 + (2 : Int32))), (.ref a3)]))
  obtain ⟨cl_12, Ar_12, q_12, S_12, N_12, H_12, G_12⟩ := id Va_7
  have hib_12 : ¬ (p2 + (2 : Int32)) < 0 ∧ (p2 + (2 : Int32)) < (8 : Int32) := (own_ibc p2 hp).2.2.1
  obtain ⟨T12, h12, X12, e12, W12, st12⟩ := stB X11 hx hZ e11 Ar_12 (j := (p2 + (2 : Int32))) (inb_of S_12 hib_12) (g := (mkF m 36 #[.val (.ref a1), .val (.int p2), .val (.int p3)] [(.int ((own_ar p3 (8 : Int32)).toInt8.toInt32)), (.int (p2 + (2 : Int32))), (.ref a3)])) rfl rfl (hb hby d6_36)
  refine Gd.st st12 ?_
  have Va_12 : Arv Z h12 a3 k3 .byte (8 : Int32) (own_vs (own_up (own_up (own_up f3 p2.toNatClampNeg (own_by (own_ar p3 (24 : Int32)))) (p2 + (1 : Int32)).toNatClampNeg (own_by (own_ar p3 (16 : Int32)))) (p2 + (2 : Int32)).toNatClampNeg (own_by (own_ar p3 (8 : Int32))))) (.int (0 : Int32)) := own_put Ar_12 q_12 S_12 N_12 H_12 G_12 W12 (own_lt _ hib_12)
  have N12 := Fr.snoc X12 N7 g_a3
  have Z13 : n0 ≤ h12.size := Nat.le_trans Z8 (Keep.of_wr W12).1
  have K14 : Keep h0 h12 [a3] := K9.wr W12 (Or.inl (List.mem_of_getElem? (i := 0) rfl))
  show Gd p.tables e below _ (T12.setTop (mkF m 37 #[.val (.ref a1), .val (.int p2), .val (.int p3)] []))
  refine Gd.st (fun _ k => XS.aloadN X12.here hx rfl (hb hby d6_37) rfl rfl k) ?_
  show Gd p.tables e below _ (T12.setTop (mkF m 38 #[.val (.ref a1), .val (.int p2), .val (.int p3)] [(.ref a1)]))
  have q15 := (q10.other W12 (Or.inl ne13))
  obtain ⟨T16, X16, e16, st16⟩ := getF X12 hx hZ hown (host := "") (Or.inl (hw _ (List.mem_of_getElem? (i := 11) rfl))) Via.refl e12 q15 (g := (mkF m 38 #[.val (.ref a1), .val (.int p2), .val (.int p3)] [(.ref a1)])) rfl rfl (hb hby d6_38)
  refine Gd.st st16 ?_
  show Gd p.tables e below _ (T16.setTop (mkF m 41 #[.val (.ref a1), .val (.int p2), .val (.int p3)] [(.ref a3)]))
  refine Gd.st (fun _ k => XS.iloadN X16.here hx rfl (hb hby d6_41) rfl k) ?_
  show Gd p.tables e below _ (T16.setTop (mkF m 42 #[.val (.ref a1), .val (.int p2), .val (.int p3)] [(.int p2), (.ref a3)]))
  refine Gd.st (fun _ k => XS.iconst X16.here hx rfl (hb hby d6_42) k) ?_
  show Gd p.tables e below _ (T16.setTop (mkF m 43 #[.val (.ref a1), .val (.int p2), .val (.int p3)] [(.int (3 : Int32)), (.int p2), (.ref a3)]))
  refine Gd.st (fun _ k => XS.iadd X16.here hx rfl (hb hby d6_43) rfl k) ?_
  show Gd p.tables e below _ (T16.setTop (mkF m 44 #[.val (.ref a1), .val (.int p2), .val (.int p3)] [(.int (p2 + (3 : Int32))), (.ref a3)]))
  refine Gd.st (fun _ k => XS.iloadN X16.here hx rfl (hb hby d6_44) rfl k) ?_
  show Gd p.tables e below _ (T16.setTop (mkF m 45 #[.val (.ref a1), .val (.int p2), .val (.int p3)] [(.int p3), (.int (p2 + (3 : Int32))), (.ref a3)]))
  refine Gd.st (fun _ k => XS.i2b X16.here hx rfl (hb hby d6_45) rfl k) ?_
  show Gd p.tables e below _ (T16.setTop (mkF m 46 #[.val (.ref a1), .val (.int p2), .val (.int p3)] [(.int (p3.toInt8.toInt32)), (.int (p2 + (3 : Int32))), (.ref a3)]))
  obtain ⟨cl_17, Ar_17, q_17, S_17, N_17, H_17, G_17⟩ := id Va_12
  have hib_17 : ¬ (p2 + (3 : Int32)) < 0 ∧ (p2 + (3 : Int32)) < (8 : Int32) := (own_ibc p2 hp).2.2.2
  obtain ⟨T17, h17, X17, e17, W17, st17⟩ := stB X16 hx hZ e16 Ar_17 (j := (p2 + (3 : Int32))) (inb_of S_17 hib_17) (g := (mkF m 46 #[.val (.ref a1), .val (.int p2), .val (.int p3)] [(.int (p3.toInt8.toInt32)), (.int (p2 + (3 : Int32))), (.ref a3)])) rfl rfl (hb hby d6_46)
  refine Gd.st st17 ?_
  have Va_17 : Arv Z h17 a3 k3 .byte (8 : Int32) (own_vs (own_up (own_up (own_up (own_up f3 p2.toNatClampNeg (own_by (own_ar p3 (24 : Int32)))) (p2 + (1 : Int32)).toNatClampNeg (own_by (own_ar p3 (16 : Int32)))) (p2 + (2 : Int32)).toNatClampNeg (own_by (own_ar p3 (8 : Int32)))) (p2 + (3 : Int32)).toNatClampNeg (own_by p3))) (.int (0 : Int32)) := own_put Ar_17 q_17 S_17 N_17 H_17 G_17 W17 (own_lt _ hib_17)
  have N17 := Fr.snoc X17 N12 g_a3
  have Z18 : n0 ≤ h17.size := Nat.le_trans Z13 (Keep.of_wr W17).1
  have K19 : Keep h0 h17 [a3] := K14.wr W17 (Or.inl (List.mem_of_getElem? (i := 0) rfl))
  show Gd p.tables e below _ (T17.setTop (mkF m 47 #[.val (.ref a1), .val (.int p2), .val (.int p3)] []))
  obtain ⟨fs, hr, hrun, hended, hW, hsame⟩ := X17.leave (v := none) (fun _ => rfl) Bd.notSynchronized
  refine Gd.mk (o := .returned (none)) (X17.returnOut hx Bd.returns (hb hby d6_47) hr) ⟨hrun, hended, _, _, rfl, ?_, ⟨_, rfl⟩, hW, hsame.mono (by decide) (by decide)⟩
  show Q6 Z a1 p2 p3 a3 k3 f3 h0 n0 _ T17.heap _
  rw [e17]
  exact ⟨rfl, N17, K19, Va_17⟩
theorem d7_0 : decode prog_35_method_17_code 0 = .ok (.aload_n 0, 1) := by decide +kernel
theorem d7_1 : decode prog_35_method_17_code 1 = .ok (.getfield 12, 3) := by decide +kernel
theorem d7_4 : decode prog_35_method_17_code 4 = .ok (.iload_n 1, 1) := by decide +kernel
theorem d7_5 : decode prog_35_method_17_code 5 = .ok (.aload_n 2, 1) := by decide +kernel
theorem d7_6 : decode prog_35_method_17_code 6 = .ok (.iload_n 3, 1) := by decide +kernel
theorem d7_7 : decode prog_35_method_17_code 7 = .ok (.iload 4, 2) := by decide +kernel
theorem d7_9 : decode prog_35_method_17_code 9 = .ok (.invokestatic 66, 3) := by decide +kernel
theorem d7_12 : decode prog_35_method_17_code 12 = .ok (.return_, 1) := by decide +kernel
theorem ef_7 (m : MethodId) (x0 : Addr) (x1 : Int32) (x2 : Addr) (x3 : Int32) (x4 : Int32) : entryFrame m #[(.ref x0), (.int x1), (.ref x2), (.int x3), (.int x4)] 5 = mkF m 0 #[.val (.ref x0), .val (.int x1), .val (.ref x2), .val (.int x3), .val (.int x4)] [] := by first | (simp [entryFrame, mkF, argsToLocals, Value.category]; done) | rfl
def Q7 (Z : State) (a1 : Addr) (p2 : Int32) (a3 : Addr) (p4 : Int32) (p5 : Int32) (a4 : Addr) (k4 : ClassId) (f4 : Nat → Int32) (k3 : ClassId) (f3 : Nat → Int32) (h0 : Heap) (n0 : Nat) (v : Option Value) (h : Heap) (L : List Loc) : Prop := v = none ∧ Fr n0 L ∧ Keep h0 h [a3] ∧ Arv Z h a3 k3 .byte (8 : Int32) (own_vs f4) (.int (0 : Int32))
set_option maxRecDepth 65536 in
set_option maxHeartbeats 40000000 in
theorem rm7 (l : Launch) (Z : State) (a0 : Array Value) (hw : ∀ d ∈ tables_1, d.before a0 Z = true) (ws : List Jvm.Cond) (a1 : Addr) (p2 : Int32) (a3 : Addr) (p4 : Int32) (p5 : Int32) (a4 : Addr) (k4 : ClassId) (f4 : Nat → Int32) (k3 : ClassId) (f3 : Nat → Int32) (h0 : Heap) (n0 : Nat) (Z0 : n0 ≤ h0.size) (hp2 : p2 = (0 : Int32)) (hp4 : p4 = (0 : Int32)) (hp5 : p5 = (8 : Int32)) (F0_0 : Fld Z h0 a1 "com/example/geogauge/geogauge/data/ByteBuilder" "bytes" "[B" (.ref a4)) (V4 : Arv Z h0 a4 k4 .byte (8 : Int32) (own_vs f4) (.int (0 : Int32))) (V3 : Arv Z h0 a3 k3 .byte (8 : Int32) (own_vs f3) (.int (0 : Int32))) (g_a3 : n0 ≤ a3) :
    MetFree l (⟨"com/example/geogauge/geogauge/data/ByteBuilder", "copyTo", "(I[BII)V"⟩ : MethodName) (head1 (Jvm.Cond.code (⟨"com/example/geogauge/geogauge/data/ByteBuilder", "copyTo", "(I[BII)V"⟩ : MethodName) prog_35_method_17_code 5 none :: ws) ({ frames := 1, cells := 0, slots := 0, locals := 18 } : Room)) (fun a U => a = #[(.ref a1), (.int p2), (.ref a3), (.int p4), (.int p5)] ∧ Z.Warmed39 U.vm ∧ U.heap = h0) (fun _ _ _ _ _ => True) (fun _ U o U' => ∃ v L, o = .returned v ∧ Q7 Z a1 p2 a3 p4 p5 a4 k4 f4 k3 f3 h0 n0 v U'.heap L ∧ FrameEnd U o U' L ({ frames := 1, cells := 0, slots := 0, locals := 18 } : Room).cells ({ frames := 1, cells := 0, slots := 0, locals := 18 } : Room).slots) := by
  refine MetFree.of_bodySF (plainFor_of_name pn_ByteBuilder) hisR ?_
  intro p e s m args below meth c s₁ Bd hml0 hP hK
  obtain ⟨rfl, hZ, hh⟩ := hP
  have hx := Bd.exec
  have hby := Bd.bytes
  have hml : c.maxLocals = 5 := hml0
  have hown : s.vm.findClass "com/example/geogauge/geogauge/data/ByteBuilder" = some m.cls := findClass_of_methodNamed Bd.named
  have hnm := (name_of_methodNamed Bd.named Bd.method).1
  have X0 : Stand p l e ({ frames := 1, cells := 0, slots := 0, locals := 18 } : Room) s m #[(.ref a1), (.int p2), (.ref a3), (.int p4), (.int p5)] below meth c s₁ [] 0 0 := Stand.of_body Bd
  have e0 : s₁.heap = h0 := by rw [← hh, Bd.state]; rfl
  have N0 := Fr.nil n0
  refine Gd.out (Gd.st (fun t k => castTop (ef_7 m a1 p2 a3 p4 p5) k) ?_)
  subst hp2 hp4 hp5
  show Gd p.tables e below _ (s₁.setTop (mkF m 0 #[.val (.ref a1), .val (.int (0 : Int32)), .val (.ref a3), .val (.int (0 : Int32)), .val (.int (8 : Int32))] []))
  refine Gd.st (fun _ k => XS.aloadN X0.here hx rfl (hb hby d7_0) rfl rfl k) ?_
  show Gd p.tables e below _ (s₁.setTop (mkF m 1 #[.val (.ref a1), .val (.int (0 : Int32)), .val (.ref a3), .val (.int (0 : Int32)), .val (.int (8 : Int32))] [(.ref a1)]))
  obtain ⟨T1, X1, e1, st1⟩ := getF X0 hx hZ hown (host := "") (Or.inl (hw _ (List.mem_of_getElem? (i := 11) rfl))) Via.refl e0 F0_0 (g := (mkF m 1 #[.val (.ref a1), .val (.int (0 : Int32)), .val (.ref a3), .val (.int (0 : Int32)), .val (.int (8 : Int32))] [(.ref a1)])) rfl rfl (hb hby d7_1)
  refine Gd.st st1 ?_
  show Gd p.tables e below _ (T1.setTop (mkF m 4 #[.val (.ref a1), .val (.int (0 : Int32)), .val (.ref a3), .val (.int (0 : Int32)), .val (.int (8 : Int32))] [(.ref a4)]))
  refine Gd.st (fun _ k => XS.iloadN X1.here hx rfl (hb hby d7_4) rfl k) ?_
  show Gd p.tables e below _ (T1.setTop (mkF m 5 #[.val (.ref a1), .val (.int (0 : Int32)), .val (.ref a3), .val (.int (0 : Int32)), .val (.int (8 : Int32))] [(.int (0 : Int32)), (.ref a4)]))
  refine Gd.st (fun _ k => XS.aloadN X1.here hx rfl (hb hby d7_5) rfl rfl k) ?_
  show Gd p.tables e below _ (T1.setTop (mkF m 6 #[.val (.ref a1), .val (.int (0 : Int32)), .val (.ref a3), .val (.int (0 : Int32)), .val (.int (8 : Int32))] [(.ref a3), (.int (0 : Int32)), (.ref a4)]))
  refine Gd.st (fun _ k => XS.iloadN X1.here hx rfl (hb hby d7_6) rfl k) ?_
  show Gd p.tables e below _ (T1.setTop (mkF m 7 #[.val (.ref a1), .val (.int (0 : Int32)), .val (.ref a3), .val (.int (0 : Int32)), .val (.int (8 : Int32))] [(.int (0 : Int32)), (.ref a3), (.int (0 : Int32)), (.ref a4)]))
  refine Gd.st (fun _ k => XS.iload X1.here hx rfl (hb hby d7_7) rfl k) ?_
  show Gd p.tables e below _ (T1.setTop (mkF m 9 #[.val (.ref a1), .val (.int (0 : Int32)), .val (.ref a3), .val (.int (0 : Int32)), .val (.int (8 : Int32))] [(.int (8 : Int32)), (.int (0 : Int32)), (.ref a3), (.int (0 : Int32)), (.ref a4)]))
  obtain ⟨T2, h2, L2, X2, e2, N2, K2, Vc2, st2⟩ := cpA X1 hx hZ hown (hw _ (List.mem_of_getElem? (i := 29) rfl)) (hw _ (List.mem_of_getElem? (i := 32) rfl)) (hw _ (List.mem_of_getElem? (i := 30) rfl)) (hw _ (List.mem_of_getElem? (i := 31) rfl)) e1 V4 V3 (Or.inl ⟨rfl, rfl⟩) (sp := (0 : Int32)) (dp := (0 : Int32)) (nn := (8 : Int32)) (by decide) (by decide) (by decide) (by decide) (by decide) rfl (Nat.le_of_ble_eq_true rfl) N0 g_a3 (g := (mkF m 9 #[.val (.ref a1), .val (.int (0 : Int32)), .val (.ref a3), .val (.int (0 : Int32)), .val (.int (8 : Int32))] [(.int (8 : Int32)), (.int (0 : Int32)), (.ref a3), (.int (0 : Int32)), (.ref a4)])) rfl (by rw [hml]; rfl) rfl (hb hby d7_9) (by decide) (W := 0) (by show 2 * 0 + _ ≤ _; exact Nat.le_of_eq rfl) (by decide)
  refine Gd.st st2 ?_
  have Vd2 : Arv Z h2 a3 k3 .byte (8 : Int32) (own_vs f4) (.int (0 : Int32)) := Vc2
  have Z3 : n0 ≤ h2.size := Nat.le_trans Z0 K2.1
  have K4 : Keep h0 h2 [a3] := (Keep.refl h0 [a3]).trans K2 (allS (Or.inl (List.mem_of_getElem? (i := 0) rfl)) all0)
  show Gd p.tables e below _ (T2.setTop (mkF m 12 #[.val (.ref a1), .val (.int (0 : Int32)), .val (.ref a3), .val (.int (0 : Int32)), .val (.int (8 : Int32))] []))
  obtain ⟨fs, hr, hrun, hended, hW, hsame⟩ := X2.leave (v := none) (fun _ => rfl) Bd.notSynchronized
  refine Gd.mk (o := .returned (none)) (X2.returnOut hx Bd.returns (hb hby d7_12) hr) ⟨hrun, hended, _, _, rfl, ?_, ⟨_, rfl⟩, hW, hsame.mono (by decide) (by decide)⟩
  show Q7 Z a1 (0 : Int32) a3 (0 : Int32) (8 : Int32) a4 k4 f4 k3 f3 h0 n0 _ T2.heap _
  rw [e2]
  exact ⟨rfl, N2, K4, Vd2⟩
theorem d8_0 : decode prog_35_method_15_code 0 = .ok (.aload_n 0, 1) := by decide +kernel
theorem d8_1 : decode prog_35_method_15_code 1 = .ok (.getfield 19, 3) := by decide +kernel
theorem d8_4 : decode prog_35_method_15_code 4 = .ok (.ireturn, 1) := by decide +kernel
theorem ef_8 (m : MethodId) (x0 : Addr) : entryFrame m #[(.ref x0)] 1 = mkF m 0 #[.val (.ref x0)] [] := by first | (simp [entryFrame, mkF, argsToLocals, Value.category]; done) | rfl
def Q8 (Z : State) (a1 : Addr) (p9 : Int32) (h0 : Heap) (n0 : Nat) (v : Option Value) (h : Heap) (L : List Loc) : Prop := v = some (.int p9) ∧ Fr n0 L ∧ h = h0
set_option maxRecDepth 65536 in
set_option maxHeartbeats 40000000 in
theorem rm8 (l : Launch) (Z : State) (a0 : Array Value) (hw : ∀ d ∈ tables_1, d.before a0 Z = true) (ws : List Jvm.Cond) (a1 : Addr) (p9 : Int32) (h0 : Heap) (n0 : Nat) (Z0 : n0 ≤ h0.size) (F0_1 : Fld Z h0 a1 "com/example/geogauge/geogauge/data/ByteBuilder" "length" "I" (.int p9)) :
    MetFree l (⟨"com/example/geogauge/geogauge/data/ByteBuilder", "length", "()I"⟩ : MethodName) (head1 (Jvm.Cond.code (⟨"com/example/geogauge/geogauge/data/ByteBuilder", "length", "()I"⟩ : MethodName) prog_35_method_15_code 1 (some .int) :: ws) ({ frames := 0, cells := 0, slots := 0, locals := 0 } : Room)) (fun a U => a = #[(.ref a1)] ∧ Z.Warmed39 U.vm ∧ U.heap = h0) (fun _ _ _ _ _ => True) (fun _ U o U' => ∃ v L, o = .returned v ∧ Q8 Z a1 p9 h0 n0 v U'.heap L ∧ FrameEnd U o U' L ({ frames := 0, cells := 0, slots := 0, locals := 0 } : Room).cells ({ frames := 0, cells := 0, slots := 0, locals := 0 } : Room).slots) := by
  refine MetFree.of_bodySF (plainFor_of_name pn_ByteBuilder) hisR ?_
  intro p e s m args below meth c s₁ Bd hml0 hP hK
  obtain ⟨rfl, hZ, hh⟩ := hP
  have hx := Bd.exec
  have hby := Bd.bytes
  have hml : c.maxLocals = 1 := hml0
  have hown : s.vm.findClass "com/example/geogauge/geogauge/data/ByteBuilder" = some m.cls := findClass_of_methodNamed Bd.named
  have hnm := (name_of_methodNamed Bd.named Bd.method).1
  have X0 : Stand p l e ({ frames := 0, cells := 0, slots := 0, locals := 0 } : Room) s m #[(.ref a1)] below meth c s₁ [] 0 0 := Stand.of_body Bd
  have e0 : s₁.heap = h0 := by rw [← hh, Bd.state]; rfl
  have N0 := Fr.nil n0
  refine Gd.out (Gd.st (fun t k => castTop (ef_8 m a1) k) ?_)
  show Gd p.tables e below _ (s₁.setTop (mkF m 0 #[.val (.ref a1)] []))
  refine Gd.st (fun _ k => XS.aloadN X0.here hx rfl (hb hby d8_0) rfl rfl k) ?_
  show Gd p.tables e below _ (s₁.setTop (mkF m 1 #[.val (.ref a1)] [(.ref a1)]))
  obtain ⟨T1, X1, e1, st1⟩ := getF X0 hx hZ hown (host := "") (Or.inl (hw _ (List.mem_of_getElem? (i := 27) rfl))) Via.refl e0 F0_1 (g := (mkF m 1 #[.val (.ref a1)] [(.ref a1)])) rfl rfl (hb hby d8_1)
  refine Gd.st st1 ?_
  show Gd p.tables e below _ (T1.setTop (mkF m 4 #[.val (.ref a1)] [(.int p9)]))
  obtain ⟨fs, hr, hrun, hended, hW, hsame⟩ := X1.leave (v := some (.int p9)) (fun h => by rw [Bd.returns] at h; cases h) Bd.notSynchronized
  refine Gd.mk (o := .returned (some (.int p9))) (retI X1 hx Bd.returns (hb hby d8_4) hr) ⟨hrun, hended, _, _, rfl, ?_, ⟨_, rfl⟩, hW, hsame.mono (by decide) (by decide)⟩
  show Q8 Z a1 p9 h0 n0 _ T1.heap _
  rw [e1]
  exact ⟨rfl, N0, rfl⟩
theorem d9_0 : decode method_3_code 0 = .ok (.iload_n 2, 1) := by decide +kernel
theorem d9_1 : decode method_3_code 1 = .ok (.iload_n 3, 1) := by decide +kernel
theorem d9_2 : decode method_3_code 2 = .ok (.if_icmp .lt 10, 3) := by decide +kernel
theorem d9_5 : decode method_3_code 5 = .ok (.iload_n 2, 1) := by decide +kernel
theorem d9_6 : decode method_3_code 6 = .ok (.iload_n 3, 1) := by decide +kernel
theorem d9_7 : decode method_3_code 7 = .ok (.iconst 4, 1) := by decide +kernel
theorem d9_8 : decode method_3_code 8 = .ok (.iadd, 1) := by decide +kernel
theorem d9_9 : decode method_3_code 9 = .ok (.if_icmp .lt 12, 3) := by decide +kernel
theorem d9_12 : decode method_3_code 12 = .ok (.aload_n 0, 1) := by decide +kernel
theorem d9_13 : decode method_3_code 13 = .ok (.iload_n 2, 1) := by decide +kernel
theorem d9_14 : decode method_3_code 14 = .ok (.baload, 1) := by decide +kernel
theorem d9_15 : decode method_3_code 15 = .ok (.aload_n 1, 1) := by decide +kernel
theorem d9_16 : decode method_3_code 16 = .ok (.iload_n 2, 1) := by decide +kernel
theorem d9_17 : decode method_3_code 17 = .ok (.baload, 1) := by decide +kernel
theorem d9_18 : decode method_3_code 18 = .ok (.if_icmp .ne 7, 3) := by decide +kernel
theorem d9_21 : decode method_3_code 21 = .ok (.iconst 1, 1) := by decide +kernel
theorem d9_22 : decode method_3_code 22 = .ok (.goto 4, 3) := by decide +kernel
theorem d9_25 : decode method_3_code 25 = .ok (.iconst 0, 1) := by decide +kernel
theorem d9_26 : decode method_3_code 26 = .ok (.ireturn, 1) := by decide +kernel
theorem pn_ByteBuilderSetIntPinLaw : plainName "com/example/geogauge/geogauge/data/ByteBuilderSetIntPinLaw" = true := by first | (simp [plainName, overriddenIn]; done) | decide +kernel
theorem ef_9 (m : MethodId) (x0 : Addr) (x1 : Addr) (x2 : Int32) (x3 : Int32) : entryFrame m #[(.ref x0), (.ref x1), (.int x2), (.int x3)] 4 = mkF m 0 #[.val (.ref x0), .val (.ref x1), .val (.int x2), .val (.int x3)] [] := by first | (simp [entryFrame, mkF, argsToLocals, Value.category]; done) | rfl
def Q9 (Z : State) (a1 : Addr) (a2 : Addr) (p3 : Int32) (p4 : Int32) (k1 : ClassId) (f1 : Nat → Int32) (k2 : ClassId) (f2 : Nat → Int32) (h0 : Heap) (n0 : Nat) (v : Option Value) (h : Heap) (L : List Loc) : Prop := v = some (.int (own_kept f1 f2 p3 p4)) ∧ Fr n0 L ∧ h = h0
set_option maxRecDepth 65536 in
set_option maxHeartbeats 40000000 in
theorem rm9 (l : Launch) (Z : State) (a0 : Array Value) (hw : ∀ d ∈ tables_1, d.before a0 Z = true) (ws : List Jvm.Cond) (a1 : Addr) (a2 : Addr) (p3 : Int32) (p4 : Int32) (k1 : ClassId) (f1 : Nat → Int32) (k2 : ClassId) (f2 : Nat → Int32) (h0 : Heap) (n0 : Nat) (Z0 : n0 ≤ h0.size) (V1 : Arv Z h0 a1 k1 .byte (8 : Int32) (own_vs f1) (.int (0 : Int32))) (V2 : Arv Z h0 a2 k2 .byte (8 : Int32) (own_vs f2) (.int (0 : Int32))) (hj : p3 = (0 : Int32) ∨ p3 = (1 : Int32) ∨ p3 = (2 : Int32) ∨ p3 = (3 : Int32) ∨ p3 = (4 : Int32) ∨ p3 = (5 : Int32) ∨ p3 = (6 : Int32) ∨ p3 = (7 : Int32)) :
    MetFree l (⟨"com/example/geogauge/geogauge/data/ByteBuilderSetIntPinLaw", "kept", "([B[BII)Z"⟩ : MethodName) (head1 (Jvm.Cond.code (⟨"com/example/geogauge/geogauge/data/ByteBuilderSetIntPinLaw", "kept", "([B[BII)Z"⟩ : MethodName) method_3_code 4 (some .boolean) :: ws) ({ frames := 0, cells := 0, slots := 0, locals := 0 } : Room)) (fun a U => a = #[(.ref a1), (.ref a2), (.int p3), (.int p4)] ∧ Z.Warmed39 U.vm ∧ U.heap = h0) (fun _ _ _ _ _ => True) (fun _ U o U' => ∃ v L, o = .returned v ∧ Q9 Z a1 a2 p3 p4 k1 f1 k2 f2 h0 n0 v U'.heap L ∧ FrameEnd U o U' L ({ frames := 0, cells := 0, slots := 0, locals := 0 } : Room).cells ({ frames := 0, cells := 0, slots := 0, locals := 0 } : Room).slots) := by
  refine MetFree.of_bodySF (plainFor_of_name pn_ByteBuilderSetIntPinLaw) hisR ?_
  intro p e s m args below meth c s₁ Bd hml0 hP hK
  obtain ⟨rfl, hZ, hh⟩ := hP
  have hx := Bd.exec
  have hby := Bd.bytes
  have hml : c.maxLocals = 4 := hml0
  have hown : s.vm.findClass "com/example/geogauge/geogauge/data/ByteBuilderSetIntPinLaw" = some m.cls := findClass_of_methodNamed Bd.named
  have hnm := (name_of_methodNamed Bd.named Bd.method).1
  have X0 : Stand p l e ({ frames := 0, cells := 0, slots := 0, locals := 0 } : Room) s m #[(.ref a1), (.ref a2), (.int p3), (.int p4)] below meth c s₁ [] 0 0 := Stand.of_body Bd
  have e0 : s₁.heap = h0 := by rw [← hh, Bd.state]; rfl
  have N0 := Fr.nil n0
  refine Gd.out (Gd.st (fun t k => castTop (ef_9 m a1 a2 p3 p4) k) ?_)
  show Gd p.tables e below _ (s₁.setTop (mkF m 0 #[.val (.ref a1), .val (.ref a2), .val (.int p3), .val (.int p4)] []))
  refine Gd.st (fun _ k => XS.iloadN X0.here hx rfl (hb hby d9_0) rfl k) ?_
  show Gd p.tables e below _ (s₁.setTop (mkF m 1 #[.val (.ref a1), .val (.ref a2), .val (.int p3), .val (.int p4)] [(.int p3)]))
  refine Gd.st (fun _ k => XS.iloadN X0.here hx rfl (hb hby d9_1) rfl k) ?_
  show Gd p.tables e below _ (s₁.setTop (mkF m 2 #[.val (.ref a1), .val (.ref a2), .val (.int p3), .val (.int p4)] [(.int p4), (.int p3)]))
  by_cases hc2 : p3 < p4
  · skip
    refine Gd.st (fun _ k => XS.icmpYes X0.here hx rfl (pc0 := 2) (pc' := 12) rfl (hb hby d9_2) rfl (tlt hc2).1 (by decide) (by decide) k) ?_
    show Gd p.tables e below _ (s₁.setTop (mkF m 12 #[.val (.ref a1), .val (.ref a2), .val (.int p3), .val (.int p4)] []))
    refine Gd.st (fun _ k => XS.aloadN X0.here hx rfl (hb hby d9_12) rfl rfl k) ?_
    show Gd p.tables e below _ (s₁.setTop (mkF m 13 #[.val (.ref a1), .val (.ref a2), .val (.int p3), .val (.int p4)] [(.ref a1)]))
    refine Gd.st (fun _ k => XS.iloadN X0.here hx rfl (hb hby d9_13) rfl k) ?_
    show Gd p.tables e below _ (s₁.setTop (mkF m 14 #[.val (.ref a1), .val (.ref a2), .val (.int p3), .val (.int p4)] [(.int p3), (.ref a1)]))
    obtain ⟨cl_1, Ar_1, q_1, S_1, N_1, H_1, G_1⟩ := id V1
    have hin_1 : ¬ (p3 < 0 ∨ cl_1.slots.size ≤ (p3).toNatClampNeg) := inb_of S_1 (by rcases hj with rfl | rfl | rfl | rfl | rfl | rfl | rfl | rfl <;> decide)
    have hat_1 : cl_1.slots[(p3).toNatClampNeg]? = some (.int (f1 (p3).toNatClampNeg)) := H_1.at hin_1 (own_get _ _ (own_lt _ (by rcases hj with rfl | rfl | rfl | rfl | rfl | rfl | rfl | rfl <;> decide)))
    refine Gd.st (fun _ k => X0.baloadBytes hx (j := p3) (v := (.int (f1 (p3).toNatClampNeg))) (by rw [e0]; exact Ar_1.1) (State.isArrayOf_alike hZ.alike Ar_1.2.1) Ar_1.2.2 hin_1 hat_1 (g := (mkF m 14 #[.val (.ref a1), .val (.ref a2), .val (.int p3), .val (.int p4)] [(.int p3), (.ref a1)])) rfl rfl (hb hby d9_14) _ k) ?_
    show Gd p.tables e below _ (s₁.setTop (mkF m 15 #[.val (.ref a1), .val (.ref a2), .val (.int p3), .val (.int p4)] [(.int (f1 (p3).toNatClampNeg))]))
    refine Gd.st (fun _ k => XS.aloadN X0.here hx rfl (hb hby d9_15) rfl rfl k) ?_
    show Gd p.tables e below _ (s₁.setTop (mkF m 16 #[.val (.ref a1), .val (.ref a2), .val (.int p3), .val (.int p4)] [(.ref a2), (.int (f1 (p3).toNatClampNeg))]))
    refine Gd.st (fun _ k => XS.iloadN X0.here hx rfl (hb hby d9_16) rfl k) ?_
    show Gd p.tables e below _ (s₁.setTop (mkF m 17 #[.val (.ref a1), .val (.ref a2), .val (.int p3), .val (.int p4)] [(.int p3), (.ref a2), (.int (f1 (p3).toNatClampNeg))]))
    obtain ⟨cl_2, Ar_2, q_2, S_2, N_2, H_2, G_2⟩ := id V2
    have hin_2 : ¬ (p3 < 0 ∨ cl_2.slots.size ≤ (p3).toNatClampNeg) := inb_of S_2 (by rcases hj with rfl | rfl | rfl | rfl | rfl | rfl | rfl | rfl <;> decide)
    have hat_2 : cl_2.slots[(p3).toNatClampNeg]? = some (.int (f2 (p3).toNatClampNeg)) := H_2.at hin_2 (own_get _ _ (own_lt _ (by rcases hj with rfl | rfl | rfl | rfl | rfl | rfl | rfl | rfl <;> decide)))
    refine Gd.st (fun _ k => X0.baloadBytes hx (j := p3) (v := (.int (f2 (p3).toNatClampNeg))) (by rw [e0]; exact Ar_2.1) (State.isArrayOf_alike hZ.alike Ar_2.2.1) Ar_2.2.2 hin_2 hat_2 (g := (mkF m 17 #[.val (.ref a1), .val (.ref a2), .val (.int p3), .val (.int p4)] [(.int p3), (.ref a2), (.int (f1 (p3).toNatClampNeg))])) rfl rfl (hb hby d9_17) _ k) ?_
    show Gd p.tables e below _ (s₁.setTop (mkF m 18 #[.val (.ref a1), .val (.ref a2), .val (.int p3), .val (.int p4)] [(.int (f2 (p3).toNatClampNeg)), (.int (f1 (p3).toNatClampNeg))]))
    by_cases hc18 : (f1 (p3).toNatClampNeg) = (f2 (p3).toNatClampNeg)
    · skip
      refine Gd.st (fun _ k => XS.icmpNo X0.here hx rfl (hb hby d9_18) rfl (teq hc18).2 k) ?_
      show Gd p.tables e below _ (s₁.setTop (mkF m 21 #[.val (.ref a1), .val (.ref a2), .val (.int p3), .val (.int p4)] []))
      refine Gd.st (fun _ k => XS.iconst X0.here hx rfl (hb hby d9_21) k) ?_
      show Gd p.tables e below _ (s₁.setTop (mkF m 22 #[.val (.ref a1), .val (.ref a2), .val (.int p3), .val (.int p4)] [(.int (1 : Int32))]))
      refine Gd.st (fun _ k => XS.goto X0.here hx rfl (pc0 := 22) (pc' := 26) rfl (hb hby d9_22) (by decide) (by decide) k) ?_
      show Gd p.tables e below _ (s₁.setTop (mkF m 26 #[.val (.ref a1), .val (.ref a2), .val (.int p3), .val (.int p4)] [(.int (1 : Int32))]))
      obtain ⟨fs, hr, hrun, hended, hW, hsame⟩ := X0.leave (v := some (.int (1 : Int32))) (fun h => by rw [Bd.returns] at h; cases h) Bd.notSynchronized
      refine Gd.mk (o := .returned (some (.int (1 : Int32)))) (retN X0 hx (t := .boolean) Bd.returns (by simp) (hb hby d9_26) hr) ⟨hrun, hended, _, _, rfl, ?_, ⟨_, rfl⟩, hW, hsame.mono (by decide) (by decide)⟩
      show Q9 Z a1 a2 p3 p4 k1 f1 k2 f2 h0 n0 _ s₁.heap _
      rw [e0]
      exact ⟨(by first | (simp only [own_kept, eq_true hc2, eq_true hc18, not_true_eq_false, not_false_eq_true, and_true, true_and, and_false, false_and, or_true, true_or, or_false, false_or, if_true, if_false]; done) | simp [own_kept, eq_true hc2, eq_true hc18]), N0, rfl⟩
    · skip
      refine Gd.st (fun _ k => XS.icmpYes X0.here hx rfl (pc0 := 18) (pc' := 25) rfl (hb hby d9_18) rfl (feq hc18).2 (by decide) (by decide) k) ?_
      show Gd p.tables e below _ (s₁.setTop (mkF m 25 #[.val (.ref a1), .val (.ref a2), .val (.int p3), .val (.int p4)] []))
      refine Gd.st (fun _ k => XS.iconst X0.here hx rfl (hb hby d9_25) k) ?_
      show Gd p.tables e below _ (s₁.setTop (mkF m 26 #[.val (.ref a1), .val (.ref a2), .val (.int p3), .val (.int p4)] [(.int (0 : Int32))]))
      obtain ⟨fs, hr, hrun, hended, hW, hsame⟩ := X0.leave (v := some (.int (0 : Int32))) (fun h => by rw [Bd.returns] at h; cases h) Bd.notSynchronized
      refine Gd.mk (o := .returned (some (.int (0 : Int32)))) (retN X0 hx (t := .boolean) Bd.returns (by simp) (hb hby d9_26) hr) ⟨hrun, hended, _, _, rfl, ?_, ⟨_, rfl⟩, hW, hsame.mono (by decide) (by decide)⟩
      show Q9 Z a1 a2 p3 p4 k1 f1 k2 f2 h0 n0 _ s₁.heap _
      rw [e0]
      exact ⟨(by first | (simp only [own_kept, eq_true hc2, eq_false hc18, not_true_eq_false, not_false_eq_true, and_true, true_and, and_false, false_and, or_true, true_or, or_false, false_or, if_true, if_false]; done) | simp [own_kept, eq_true hc2, eq_false hc18]), N0, rfl⟩
  · skip
    refine Gd.st (fun _ k => XS.icmpNo X0.here hx rfl (hb hby d9_2) rfl (flt hc2).1 k) ?_
    show Gd p.tables e below _ (s₁.setTop (mkF m 5 #[.val (.ref a1), .val (.ref a2), .val (.int p3), .val (.int p4)] []))
    refine Gd.st (fun _ k => XS.iloadN X0.here hx rfl (hb hby d9_5) rfl k) ?_
    show Gd p.tables e below _ (s₁.setTop (mkF m 6 #[.val (.ref a1), .val (.ref a2), .val (.int p3), .val (.int p4)] [(.int p3)]))
    refine Gd.st (fun _ k => XS.iloadN X0.here hx rfl (hb hby d9_6) rfl k) ?_
    show Gd p.tables e below _ (s₁.setTop (mkF m 7 #[.val (.ref a1), .val (.ref a2), .val (.int p3), .val (.int p4)] [(.int p4), (.int p3)]))
    refine Gd.st (fun _ k => XS.iconst X0.here hx rfl (hb hby d9_7) k) ?_
    show Gd p.tables e below _ (s₁.setTop (mkF m 8 #[.val (.ref a1), .val (.ref a2), .val (.int p3), .val (.int p4)] [(.int (4 : Int32)), (.int p4), (.int p3)]))
    refine Gd.st (fun _ k => XS.iadd X0.here hx rfl (hb hby d9_8) rfl k) ?_
    show Gd p.tables e below _ (s₁.setTop (mkF m 9 #[.val (.ref a1), .val (.ref a2), .val (.int p3), .val (.int p4)] [(.int (p4 + (4 : Int32))), (.int p3)]))
    by_cases hc9 : p3 < (p4 + (4 : Int32))
    · skip
      refine Gd.st (fun _ k => XS.icmpYes X0.here hx rfl (pc0 := 9) (pc' := 21) rfl (hb hby d9_9) rfl (tlt hc9).1 (by decide) (by decide) k) ?_
      show Gd p.tables e below _ (s₁.setTop (mkF m 21 #[.val (.ref a1), .val (.ref a2), .val (.int p3), .val (.int p4)] []))
      refine Gd.st (fun _ k => XS.iconst X0.here hx rfl (hb hby d9_21) k) ?_
      show Gd p.tables e below _ (s₁.setTop (mkF m 22 #[.val (.ref a1), .val (.ref a2), .val (.int p3), .val (.int p4)] [(.int (1 : Int32))]))
      refine Gd.st (fun _ k => XS.goto X0.here hx rfl (pc0 := 22) (pc' := 26) rfl (hb hby d9_22) (by decide) (by decide) k) ?_
      show Gd p.tables e below _ (s₁.setTop (mkF m 26 #[.val (.ref a1), .val (.ref a2), .val (.int p3), .val (.int p4)] [(.int (1 : Int32))]))
      obtain ⟨fs, hr, hrun, hended, hW, hsame⟩ := X0.leave (v := some (.int (1 : Int32))) (fun h => by rw [Bd.returns] at h; cases h) Bd.notSynchronized
      refine Gd.mk (o := .returned (some (.int (1 : Int32)))) (retN X0 hx (t := .boolean) Bd.returns (by simp) (hb hby d9_26) hr) ⟨hrun, hended, _, _, rfl, ?_, ⟨_, rfl⟩, hW, hsame.mono (by decide) (by decide)⟩
      show Q9 Z a1 a2 p3 p4 k1 f1 k2 f2 h0 n0 _ s₁.heap _
      rw [e0]
      exact ⟨(by first | (simp only [own_kept, eq_false hc2, eq_true hc9, not_true_eq_false, not_false_eq_true, and_true, true_and, and_false, false_and, or_true, true_or, or_false, false_or, if_true, if_false]; done) | simp [own_kept, eq_false hc2, eq_true hc9]), N0, rfl⟩
    · skip
      refine Gd.st (fun _ k => XS.icmpNo X0.here hx rfl (hb hby d9_9) rfl (flt hc9).1 k) ?_
      show Gd p.tables e below _ (s₁.setTop (mkF m 12 #[.val (.ref a1), .val (.ref a2), .val (.int p3), .val (.int p4)] []))
      refine Gd.st (fun _ k => XS.aloadN X0.here hx rfl (hb hby d9_12) rfl rfl k) ?_
      show Gd p.tables e below _ (s₁.setTop (mkF m 13 #[.val (.ref a1), .val (.ref a2), .val (.int p3), .val (.int p4)] [(.ref a1)]))
      refine Gd.st (fun _ k => XS.iloadN X0.here hx rfl (hb hby d9_13) rfl k) ?_
      show Gd p.tables e below _ (s₁.setTop (mkF m 14 #[.val (.ref a1), .val (.ref a2), .val (.int p3), .val (.int p4)] [(.int p3), (.ref a1)]))
      obtain ⟨cl_3, Ar_3, q_3, S_3, N_3, H_3, G_3⟩ := id V1
      have hin_3 : ¬ (p3 < 0 ∨ cl_3.slots.size ≤ (p3).toNatClampNeg) := inb_of S_3 (by rcases hj with rfl | rfl | rfl | rfl | rfl | rfl | rfl | rfl <;> decide)
      have hat_3 : cl_3.slots[(p3).toNatClampNeg]? = some (.int (f1 (p3).toNatClampNeg)) := H_3.at hin_3 (own_get _ _ (own_lt _ (by rcases hj with rfl | rfl | rfl | rfl | rfl | rfl | rfl | rfl <;> decide)))
      refine Gd.st (fun _ k => X0.baloadBytes hx (j := p3) (v := (.int (f1 (p3).toNatClampNeg))) (by rw [e0]; exact Ar_3.1) (State.isArrayOf_alike hZ.alike Ar_3.2.1) Ar_3.2.2 hin_3 hat_3 (g := (mkF m 14 #[.val (.ref a1), .val (.ref a2), .val (.int p3), .val (.int p4)] [(.int p3), (.ref a1)])) rfl rfl (hb hby d9_14) _ k) ?_
      show Gd p.tables e below _ (s₁.setTop (mkF m 15 #[.val (.ref a1), .val (.ref a2), .val (.int p3), .val (.int p4)] [(.int (f1 (p3).toNatClampNeg))]))
      refine Gd.st (fun _ k => XS.aloadN X0.here hx rfl (hb hby d9_15) rfl rfl k) ?_
      show Gd p.tables e below _ (s₁.setTop (mkF m 16 #[.val (.ref a1), .val (.ref a2), .val (.int p3), .val (.int p4)] [(.ref a2), (.int (f1 (p3).toNatClampNeg))]))
      refine Gd.st (fun _ k => XS.iloadN X0.here hx rfl (hb hby d9_16) rfl k) ?_
      show Gd p.tables e below _ (s₁.setTop (mkF m 17 #[.val (.ref a1), .val (.ref a2), .val (.int p3), .val (.int p4)] [(.int p3), (.ref a2), (.int (f1 (p3).toNatClampNeg))]))
      obtain ⟨cl_4, Ar_4, q_4, S_4, N_4, H_4, G_4⟩ := id V2
      have hin_4 : ¬ (p3 < 0 ∨ cl_4.slots.size ≤ (p3).toNatClampNeg) := inb_of S_4 (by rcases hj with rfl | rfl | rfl | rfl | rfl | rfl | rfl | rfl <;> decide)
      have hat_4 : cl_4.slots[(p3).toNatClampNeg]? = some (.int (f2 (p3).toNatClampNeg)) := H_4.at hin_4 (own_get _ _ (own_lt _ (by rcases hj with rfl | rfl | rfl | rfl | rfl | rfl | rfl | rfl <;> decide)))
      refine Gd.st (fun _ k => X0.baloadBytes hx (j := p3) (v := (.int (f2 (p3).toNatClampNeg))) (by rw [e0]; exact Ar_4.1) (State.isArrayOf_alike hZ.alike Ar_4.2.1) Ar_4.2.2 hin_4 hat_4 (g := (mkF m 17 #[.val (.ref a1), .val (.ref a2), .val (.int p3), .val (.int p4)] [(.int p3), (.ref a2), (.int (f1 (p3).toNatClampNeg))])) rfl rfl (hb hby d9_17) _ k) ?_
      show Gd p.tables e below _ (s₁.setTop (mkF m 18 #[.val (.ref a1), .val (.ref a2), .val (.int p3), .val (.int p4)] [(.int (f2 (p3).toNatClampNeg)), (.int (f1 (p3).toNatClampNeg))]))
      by_cases hc18 : (f1 (p3).toNatClampNeg) = (f2 (p3).toNatClampNeg)
      · skip
        refine Gd.st (fun _ k => XS.icmpNo X0.here hx rfl (hb hby d9_18) rfl (teq hc18).2 k) ?_
        show Gd p.tables e below _ (s₁.setTop (mkF m 21 #[.val (.ref a1), .val (.ref a2), .val (.int p3), .val (.int p4)] []))
        refine Gd.st (fun _ k => XS.iconst X0.here hx rfl (hb hby d9_21) k) ?_
        show Gd p.tables e below _ (s₁.setTop (mkF m 22 #[.val (.ref a1), .val (.ref a2), .val (.int p3), .val (.int p4)] [(.int (1 : Int32))]))
        refine Gd.st (fun _ k => XS.goto X0.here hx rfl (pc0 := 22) (pc' := 26) rfl (hb hby d9_22) (by decide) (by decide) k) ?_
        show Gd p.tables e below _ (s₁.setTop (mkF m 26 #[.val (.ref a1), .val (.ref a2), .val (.int p3), .val (.int p4)] [(.int (1 : Int32))]))
        obtain ⟨fs, hr, hrun, hended, hW, hsame⟩ := X0.leave (v := some (.int (1 : Int32))) (fun h => by rw [Bd.returns] at h; cases h) Bd.notSynchronized
        refine Gd.mk (o := .returned (some (.int (1 : Int32)))) (retN X0 hx (t := .boolean) Bd.returns (by simp) (hb hby d9_26) hr) ⟨hrun, hended, _, _, rfl, ?_, ⟨_, rfl⟩, hW, hsame.mono (by decide) (by decide)⟩
        show Q9 Z a1 a2 p3 p4 k1 f1 k2 f2 h0 n0 _ s₁.heap _
        rw [e0]
        exact ⟨(by first | (simp only [own_kept, eq_false hc2, eq_false hc9, eq_true hc18, not_true_eq_false, not_false_eq_true, and_true, true_and, and_false, false_and, or_true, true_or, or_false, false_or, if_true, if_false]; done) | simp [own_kept, eq_false hc2, eq_false hc9, eq_true hc18]), N0, rfl⟩
      · skip
        refine Gd.st (fun _ k => XS.icmpYes X0.here hx rfl (pc0 := 18) (pc' := 25) rfl (hb hby d9_18) rfl (feq hc18).2 (by decide) (by decide) k) ?_
        show Gd p.tables e below _ (s₁.setTop (mkF m 25 #[.val (.ref a1), .val (.ref a2), .val (.int p3), .val (.int p4)] []))
        refine Gd.st (fun _ k => XS.iconst X0.here hx rfl (hb hby d9_25) k) ?_
        show Gd p.tables e below _ (s₁.setTop (mkF m 26 #[.val (.ref a1), .val (.ref a2), .val (.int p3), .val (.int p4)] [(.int (0 : Int32))]))
        obtain ⟨fs, hr, hrun, hended, hW, hsame⟩ := X0.leave (v := some (.int (0 : Int32))) (fun h => by rw [Bd.returns] at h; cases h) Bd.notSynchronized
        refine Gd.mk (o := .returned (some (.int (0 : Int32)))) (retN X0 hx (t := .boolean) Bd.returns (by simp) (hb hby d9_26) hr) ⟨hrun, hended, _, _, rfl, ?_, ⟨_, rfl⟩, hW, hsame.mono (by decide) (by decide)⟩
        show Q9 Z a1 a2 p3 p4 k1 f1 k2 f2 h0 n0 _ s₁.heap _
        rw [e0]
        exact ⟨(by first | (simp only [own_kept, eq_false hc2, eq_false hc9, eq_false hc18, not_true_eq_false, not_false_eq_true, and_true, true_and, and_false, false_and, or_true, true_or, or_false, false_or, if_true, if_false]; done) | simp [own_kept, eq_false hc2, eq_false hc9, eq_false hc18]), N0, rfl⟩
theorem ef_0 (m : MethodId) (x0 : Int32) (x1 : Int32) (x2 : Int64) : entryFrame m #[(.int x0), (.int x1), (.long x2)] maxLocals = mkF m 0 #[.val (.int x0), .val (.int x1), .val (.long x2), .second, .unset, .unset, .unset, .unset, .unset] [] := by first | (simp [entryFrame, mkF, argsToLocals, Value.category, maxLocals]; done) | rfl
theorem pd_ByteBuilder__52 : parseMethodDescriptor "([B)Lcom/example/geogauge/geogauge/data/ByteBuilder;" = some ⟨[(.array .byte)], some (.object "com/example/geogauge/geogauge/data/ByteBuilder")⟩ := by decide +kernel
theorem pd__II_V_5 : parseMethodDescriptor "(II)V" = some ⟨[.int, .int], none⟩ := by decide +kernel
theorem pd__IABII_V_8 : parseMethodDescriptor "(I[BII)V" = some ⟨[.int, (.array .byte), .int, .int], none⟩ := by decide +kernel
theorem pd___I_3 : parseMethodDescriptor "()I" = some ⟨[], some .int⟩ := by decide +kernel
theorem pd__ABABII_Z_9 : parseMethodDescriptor "([B[BII)Z" = some ⟨[(.array .byte), (.array .byte), .int, .int], some .boolean⟩ := by decide +kernel
def Q0 (Z : State) (p1 : Int32) (p2 : Int32) (q3 : Int64) (h0 : Heap) (n0 : Nat) (v : Option Value) (h : Heap) (L : List Loc) : Prop := v = some (.int (1 : Int32)) ∧ Fr n0 L
set_option maxRecDepth 65536 in
set_option maxHeartbeats 40000000 in
theorem rm0 (l : Launch) (Z : State) (a0 : Array Value) (hw : ∀ d ∈ tables_1, d.before a0 Z = true) (ws : List Jvm.Cond) (p1 : Int32) (p2 : Int32) (q3 : Int64) (h0 : Heap) (n0 : Nat) (Z0 : n0 ≤ h0.size) :
    MetFree l x (head1 (Jvm.Cond.code x code maxLocals ret :: ws) room_1) (fun a U => a = #[(.int p1), (.int p2), (.long q3)] ∧ Z.Warmed39 U.vm ∧ U.heap = h0) (fun _ _ _ _ _ => True) (fun _ U o U' => ∃ v L, o = .returned v ∧ Q0 Z p1 p2 q3 h0 n0 v U'.heap L ∧ FrameEnd U o U' L room_1.cells room_1.slots) := by
  refine MetFree.of_bodySF (plainFor_of_name pn_ByteBuilderSetIntPinLaw) hisR ?_
  intro p e s m args below meth c s₁ Bd hml0 hP hK
  obtain ⟨rfl, hZ, hh⟩ := hP
  have hx := Bd.exec
  have hby := Bd.bytes
  have hml : c.maxLocals = 9 := hml0
  have hown : s.vm.findClass "com/example/geogauge/geogauge/data/ByteBuilderSetIntPinLaw" = some m.cls := findClass_of_methodNamed Bd.named
  have hnm := (name_of_methodNamed Bd.named Bd.method).1
  have X0 : Stand p l e room_1 s m #[(.int p1), (.int p2), (.long q3)] below meth c s₁ [] 0 0 := Stand.of_body Bd
  have e0 : s₁.heap = h0 := by rw [← hh, Bd.state]; rfl
  have N0 := Fr.nil n0
  refine Gd.out (Gd.st (fun t k => castTop (ef_0 m p1 p2 q3) k) ?_)
  show Gd p.tables e below _ (s₁.setTop (mkF m 0 #[.val (.int p1), .val (.int p2), .val (.long q3), .second, .unset, .unset, .unset, .unset, .unset] []))
  refine Gd.st (fun _ k => XS.iloadN X0.here hx rfl (hb hby at_0) rfl k) ?_
  show Gd p.tables e below _ (s₁.setTop (mkF m 1 #[.val (.int p1), .val (.int p2), .val (.long q3), .second, .unset, .unset, .unset, .unset, .unset] [(.int p1)]))
  refine Gd.st (fun _ k => X0.ldcInt hx hown (mvT hZ (hw _ (List.mem_of_getElem? (i := 0) rfl))) (g := (mkF m 1 #[.val (.int p1), .val (.int p2), .val (.long q3), .second, .unset, .unset, .unset, .unset, .unset] [(.int p1)])) rfl (hb hby at_1) _ k) ?_
  show Gd p.tables e below _ (s₁.setTop (mkF m 3 #[.val (.int p1), .val (.int p2), .val (.long q3), .second, .unset, .unset, .unset, .unset, .unset] [(.int (2147483647 : Int32)), (.int p1)]))
  refine Gd.st (fun _ k => XS.iand X0.here hx rfl (hb hby at_3) rfl k) ?_
  show Gd p.tables e below _ (s₁.setTop (mkF m 4 #[.val (.int p1), .val (.int p2), .val (.long q3), .second, .unset, .unset, .unset, .unset, .unset] [(.int (p1 &&& (2147483647 : Int32)))]))
  refine Gd.st (fun _ k => XS.iconst X0.here hx rfl (hb hby at_4) k) ?_
  show Gd p.tables e below _ (s₁.setTop (mkF m 5 #[.val (.int p1), .val (.int p2), .val (.long q3), .second, .unset, .unset, .unset, .unset, .unset] [(.int (5 : Int32)), (.int (p1 &&& (2147483647 : Int32)))]))
  refine Gd.st (fun _ k => XS.irem X0.here hx rfl (hb hby at_5) rfl (by decide) k) ?_
  show Gd p.tables e below _ (s₁.setTop (mkF m 6 #[.val (.int p1), .val (.int p2), .val (.long q3), .second, .unset, .unset, .unset, .unset, .unset] [(.int (own_i p1))]))
  refine Gd.st (fun _ k => XS.istore X0.here hx rfl (hb hby at_6) rfl (l' := #[.val (.int p1), .val (.int p2), .val (.long q3), .second, .val (.int (own_i p1)), .unset, .unset, .unset, .unset]) rfl k) ?_
  show Gd p.tables e below _ (s₁.setTop (mkF m 8 #[.val (.int p1), .val (.int p2), .val (.long q3), .second, .val (.int (own_i p1)), .unset, .unset, .unset, .unset] []))
  refine Gd.st (fun _ k => XS.bipush X0.here hx rfl (hb hby at_8) k) ?_
  show Gd p.tables e below _ (s₁.setTop (mkF m 10 #[.val (.int p1), .val (.int p2), .val (.long q3), .second, .val (.int (own_i p1)), .unset, .unset, .unset, .unset] [(.int (8 : Int32))]))
  obtain ⟨T1, h1, k1, X1, e1, E1, A1, st1⟩ := newP X0 hx hZ (hw _ (List.mem_of_getElem? (i := 1) rfl)) e0 (g := (mkF m 10 #[.val (.int p1), .val (.int p2), .val (.long q3), .second, .val (.int (own_i p1)), .unset, .unset, .unset, .unset] [(.int (8 : Int32))])) rfl (hb hby at_10) rfl (by decide) (cap := 8) (by decide) (by decide) (by decide) (by decide)
  obtain ⟨b1, g1⟩ : ∃ z, z = h0.size := ⟨_, rfl⟩
  rw [← g1] at A1 st1
  refine Gd.st st1 ?_
  have g_b1 : n0 ≤ b1 := Nat.le_trans Z0 (Nat.le_of_eq g1.symm)
  have Z2 : n0 ≤ h1.size := Nat.le_trans Z0 E1.1
  have V_b1 : Arv Z h1 b1 k1 .byte (8 : Int32) [(.int (0 : Int32)), (.int (0 : Int32)), (.int (0 : Int32)), (.int (0 : Int32)), (.int (0 : Int32)), (.int (0 : Int32)), (.int (0 : Int32)), (.int (0 : Int32))] (.int (0 : Int32)) := (Arv.new A1 (by decide)).pad (pad_rep [] (.int (0 : Int32)) 8)
  show Gd p.tables e below _ (T1.setTop (mkF m 12 #[.val (.int p1), .val (.int p2), .val (.long q3), .second, .val (.int (own_i p1)), .unset, .unset, .unset, .unset] [(.ref b1)]))
  refine Gd.st (fun _ k => XS.astore X1.here hx rfl (hb hby at_12) rfl rfl (l' := #[.val (.int p1), .val (.int p2), .val (.long q3), .second, .val (.int (own_i p1)), .val (.ref b1), .unset, .unset, .unset]) rfl k) ?_
  show Gd p.tables e below _ (T1.setTop (mkF m 14 #[.val (.int p1), .val (.int p2), .val (.long q3), .second, .val (.int (own_i p1)), .val (.ref b1), .unset, .unset, .unset] []))
  refine Gd.st (fun _ k => XS.aload X1.here hx rfl (hb hby at_14) rfl rfl k) ?_
  show Gd p.tables e below _ (T1.setTop (mkF m 16 #[.val (.int p1), .val (.int p2), .val (.long q3), .second, .val (.int (own_i p1)), .val (.ref b1), .unset, .unset, .unset] [(.ref b1)]))
  refine Gd.st (fun _ k => XS.iconst X1.here hx rfl (hb hby at_16) k) ?_
  show Gd p.tables e below _ (T1.setTop (mkF m 17 #[.val (.int p1), .val (.int p2), .val (.long q3), .second, .val (.int (own_i p1)), .val (.ref b1), .unset, .unset, .unset] [(.int (0 : Int32)), (.ref b1)]))
  refine Gd.st (fun _ k => XS.lloadN X1.here hx rfl (hb hby at_17) rfl k) ?_
  show Gd p.tables e below _ (T1.setTop (mkF m 18 #[.val (.int p1), .val (.int p2), .val (.long q3), .second, .val (.int (own_i p1)), .val (.ref b1), .unset, .unset, .unset] [(.long q3), (.int (0 : Int32)), (.ref b1)]))
  refine Gd.st (fun _ k => XS.l2i X1.here hx rfl (hb hby at_18) rfl k) ?_
  show Gd p.tables e below _ (T1.setTop (mkF m 19 #[.val (.int p1), .val (.int p2), .val (.long q3), .second, .val (.int (own_i p1)), .val (.ref b1), .unset, .unset, .unset] [(.int (q3.toInt32)), (.int (0 : Int32)), (.ref b1)]))
  refine Gd.st (fun _ k => XS.i2b X1.here hx rfl (hb hby at_19) rfl k) ?_
  show Gd p.tables e below _ (T1.setTop (mkF m 20 #[.val (.int p1), .val (.int p2), .val (.long q3), .second, .val (.int (own_i p1)), .val (.ref b1), .unset, .unset, .unset] [(.int ((q3.toInt32).toInt8.toInt32)), (.int (0 : Int32)), (.ref b1)]))
  obtain ⟨cl_3, Ar_3, q_3, S_3, N_3, H_3, G_3⟩ := id V_b1
  have hin_3 : ¬ ((0 : Int32) < 0 ∨ cl_3.slots.size ≤ ((0 : Int32)).toNatClampNeg) := inb_of S_3 ⟨by decide, by decide⟩
  obtain ⟨T3, h3, X3, e3, W3, st3⟩ := stB X1 hx hZ e1 Ar_3 (j := (0 : Int32)) hin_3 (g := (mkF m 20 #[.val (.int p1), .val (.int p2), .val (.long q3), .second, .val (.int (own_i p1)), .val (.ref b1), .unset, .unset, .unset] [(.int ((q3.toInt32).toInt8.toInt32)), (.int (0 : Int32)), (.ref b1)])) rfl rfl (hb hby at_20)
  refine Gd.st st3 ?_
  have Va_3 : Arv Z h3 b1 k1 .byte (8 : Int32) [(.int (((q3.toInt32).toInt8.toInt32)).toInt8.toInt32), (.int (0 : Int32)), (.int (0 : Int32)), (.int (0 : Int32)), (.int (0 : Int32)), (.int (0 : Int32)), (.int (0 : Int32)), (.int (0 : Int32))] (.int (0 : Int32)) := Arv.set Ar_3 q_3 S_3 N_3 H_3 G_3 (fits_nar_byte _) W3 0 rfl (Nat.le_of_ble_eq_true rfl)
  have N3 := Fr.snoc X3 N0 g_b1
  have Z4 : n0 ≤ h3.size := Nat.le_trans Z2 (Keep.of_wr W3).1
  show Gd p.tables e below _ (T3.setTop (mkF m 21 #[.val (.int p1), .val (.int p2), .val (.long q3), .second, .val (.int (own_i p1)), .val (.ref b1), .unset, .unset, .unset] []))
  refine Gd.st (fun _ k => XS.aload X3.here hx rfl (hb hby at_21) rfl rfl k) ?_
  show Gd p.tables e below _ (T3.setTop (mkF m 23 #[.val (.int p1), .val (.int p2), .val (.long q3), .second, .val (.int (own_i p1)), .val (.ref b1), .unset, .unset, .unset] [(.ref b1)]))
  refine Gd.st (fun _ k => XS.iconst X3.here hx rfl (hb hby at_23) k) ?_
  show Gd p.tables e below _ (T3.setTop (mkF m 24 #[.val (.int p1), .val (.int p2), .val (.long q3), .second, .val (.int (own_i p1)), .val (.ref b1), .unset, .unset, .unset] [(.int (1 : Int32)), (.ref b1)]))
  refine Gd.st (fun _ k => XS.lloadN X3.here hx rfl (hb hby at_24) rfl k) ?_
  show Gd p.tables e below _ (T3.setTop (mkF m 25 #[.val (.int p1), .val (.int p2), .val (.long q3), .second, .val (.int (own_i p1)), .val (.ref b1), .unset, .unset, .unset] [(.long q3), (.int (1 : Int32)), (.ref b1)]))
  refine Gd.st (fun _ k => XS.bipush X3.here hx rfl (hb hby at_25) k) ?_
  show Gd p.tables e below _ (T3.setTop (mkF m 27 #[.val (.int p1), .val (.int p2), .val (.long q3), .second, .val (.int (own_i p1)), .val (.ref b1), .unset, .unset, .unset] [(.int (8 : Int32)), (.long q3), (.int (1 : Int32)), (.ref b1)]))
  refine Gd.st (fun _ k => XS.lshr X3.here hx rfl (hb hby at_27) rfl k) ?_
  show Gd p.tables e below _ (T3.setTop (mkF m 28 #[.val (.int p1), .val (.int p2), .val (.long q3), .second, .val (.int (own_i p1)), .val (.ref b1), .unset, .unset, .unset] [(.long (q3 >>> ((8 : Int32) &&& 0x3f).toInt64)), (.int (1 : Int32)), (.ref b1)]))
  refine Gd.st (fun _ k => XS.l2i X3.here hx rfl (hb hby at_28) rfl k) ?_
  show Gd p.tables e below _ (T3.setTop (mkF m 29 #[.val (.int p1), .val (.int p2), .val (.long q3), .second, .val (.int (own_i p1)), .val (.ref b1), .unset, .unset, .unset] [(.int ((q3 >>> ((8 : Int32) &&& 0x3f).toInt64).toInt32)), (.int (1 : Int32)), (.ref b1)]))
  refine Gd.st (fun _ k => XS.i2b X3.here hx rfl (hb hby at_29) rfl k) ?_
  show Gd p.tables e below _ (T3.setTop (mkF m 30 #[.val (.int p1), .val (.int p2), .val (.long q3), .second, .val (.int (own_i p1)), .val (.ref b1), .unset, .unset, .unset] [(.int (((q3 >>> ((8 : Int32) &&& 0x3f).toInt64).toInt32).toInt8.toInt32)), (.int (1 : Int32)), (.ref b1)]))
  obtain ⟨cl_5, Ar_5, q_5, S_5, N_5, H_5, G_5⟩ := id Va_3
  have hin_5 : ¬ ((1 : Int32) < 0 ∨ cl_5.slots.size ≤ ((1 : Int32)).toNatClampNeg) := inb_of S_5 ⟨by decide, by decide⟩
  obtain ⟨T5, h5, X5, e5, W5, st5⟩ := stB X3 hx hZ e3 Ar_5 (j := (1 : Int32)) hin_5 (g := (mkF m 30 #[.val (.int p1), .val (.int p2), .val (.long q3), .second, .val (.int (own_i p1)), .val (.ref b1), .unset, .unset, .unset] [(.int (((q3 >>> ((8 : Int32) &&& 0x3f).toInt64).toInt32).toInt8.toInt32)), (.int (1 : Int32)), (.ref b1)])) rfl rfl (hb hby at_30)
  refine Gd.st st5 ?_
  have Va_5 : Arv Z h5 b1 k1 .byte (8 : Int32) [(.int (((q3.toInt32).toInt8.toInt32)).toInt8.toInt32), (.int ((((q3 >>> ((8 : Int32) &&& 0x3f).toInt64).toInt32).toInt8.toInt32)).toInt8.toInt32), (.int (0 : Int32)), (.int (0 : Int32)), (.int (0 : Int32)), (.int (0 : Int32)), (.int (0 : Int32)), (.int (0 : Int32))] (.int (0 : Int32)) := Arv.set Ar_5 q_5 S_5 N_5 H_5 G_5 (fits_nar_byte _) W5 1 rfl (Nat.le_of_ble_eq_true rfl)
  have N5 := Fr.snoc X5 N3 g_b1
  have Z6 : n0 ≤ h5.size := Nat.le_trans Z4 (Keep.of_wr W5).1
  show Gd p.tables e below _ (T5.setTop (mkF m 31 #[.val (.int p1), .val (.int p2), .val (.long q3), .second, .val (.int (own_i p1)), .val (.ref b1), .unset, .unset, .unset] []))
  refine Gd.st (fun _ k => XS.aload X5.here hx rfl (hb hby at_31) rfl rfl k) ?_
  show Gd p.tables e below _ (T5.setTop (mkF m 33 #[.val (.int p1), .val (.int p2), .val (.long q3), .second, .val (.int (own_i p1)), .val (.ref b1), .unset, .unset, .unset] [(.ref b1)]))
  refine Gd.st (fun _ k => XS.iconst X5.here hx rfl (hb hby at_33) k) ?_
  show Gd p.tables e below _ (T5.setTop (mkF m 34 #[.val (.int p1), .val (.int p2), .val (.long q3), .second, .val (.int (own_i p1)), .val (.ref b1), .unset, .unset, .unset] [(.int (2 : Int32)), (.ref b1)]))
  refine Gd.st (fun _ k => XS.lloadN X5.here hx rfl (hb hby at_34) rfl k) ?_
  show Gd p.tables e below _ (T5.setTop (mkF m 35 #[.val (.int p1), .val (.int p2), .val (.long q3), .second, .val (.int (own_i p1)), .val (.ref b1), .unset, .unset, .unset] [(.long q3), (.int (2 : Int32)), (.ref b1)]))
  refine Gd.st (fun _ k => XS.bipush X5.here hx rfl (hb hby at_35) k) ?_
  show Gd p.tables e below _ (T5.setTop (mkF m 37 #[.val (.int p1), .val (.int p2), .val (.long q3), .second, .val (.int (own_i p1)), .val (.ref b1), .unset, .unset, .unset] [(.int (16 : Int32)), (.long q3), (.int (2 : Int32)), (.ref b1)]))
  refine Gd.st (fun _ k => XS.lshr X5.here hx rfl (hb hby at_37) rfl k) ?_
  show Gd p.tables e below _ (T5.setTop (mkF m 38 #[.val (.int p1), .val (.int p2), .val (.long q3), .second, .val (.int (own_i p1)), .val (.ref b1), .unset, .unset, .unset] [(.long (q3 >>> ((16 : Int32) &&& 0x3f).toInt64)), (.int (2 : Int32)), (.ref b1)]))
  refine Gd.st (fun _ k => XS.l2i X5.here hx rfl (hb hby at_38) rfl k) ?_
  show Gd p.tables e below _ (T5.setTop (mkF m 39 #[.val (.int p1), .val (.int p2), .val (.long q3), .second, .val (.int (own_i p1)), .val (.ref b1), .unset, .unset, .unset] [(.int ((q3 >>> ((16 : Int32) &&& 0x3f).toInt64).toInt32)), (.int (2 : Int32)), (.ref b1)]))
  refine Gd.st (fun _ k => XS.i2b X5.here hx rfl (hb hby at_39) rfl k) ?_
  show Gd p.tables e below _ (T5.setTop (mkF m 40 #[.val (.int p1), .val (.int p2), .val (.long q3), .second, .val (.int (own_i p1)), .val (.ref b1), .unset, .unset, .unset] [(.int (((q3 >>> ((16 : Int32) &&& 0x3f).toInt64).toInt32).toInt8.toInt32)), (.int (2 : Int32)), (.ref b1)]))
  obtain ⟨cl_7, Ar_7, q_7, S_7, N_7, H_7, G_7⟩ := id Va_5
  have hin_7 : ¬ ((2 : Int32) < 0 ∨ cl_7.slots.size ≤ ((2 : Int32)).toNatClampNeg) := inb_of S_7 ⟨by decide, by decide⟩
  obtain ⟨T7, h7, X7, e7, W7, st7⟩ := stB X5 hx hZ e5 Ar_7 (j := (2 : Int32)) hin_7 (g := (mkF m 40 #[.val (.int p1), .val (.int p2), .val (.long q3), .second, .val (.int (own_i p1)), .val (.ref b1), .unset, .unset, .unset] [(.int (((q3 >>> ((16 : Int32) &&& 0x3f).toInt64).toInt32).toInt8.toInt32)), (.int (2 : Int32)), (.ref b1)])) rfl rfl (hb hby at_40)
  refine Gd.st st7 ?_
  have Va_7 : Arv Z h7 b1 k1 .byte (8 : Int32) [(.int (((q3.toInt32).toInt8.toInt32)).toInt8.toInt32), (.int ((((q3 >>> ((8 : Int32) &&& 0x3f).toInt64).toInt32).toInt8.toInt32)).toInt8.toInt32), (.int ((((q3 >>> ((16 : Int32) &&& 0x3f).toInt64).toInt32).toInt8.toInt32)).toInt8.toInt32), (.int (0 : Int32)), (.int (0 : Int32)), (.int (0 : Int32)), (.int (0 : Int32)), (.int (0 : Int32))] (.int (0 : Int32)) := Arv.set Ar_7 q_7 S_7 N_7 H_7 G_7 (fits_nar_byte _) W7 2 rfl (Nat.le_of_ble_eq_true rfl)
  have N7 := Fr.snoc X7 N5 g_b1
  have Z8 : n0 ≤ h7.size := Nat.le_trans Z6 (Keep.of_wr W7).1
  show Gd p.tables e below _ (T7.setTop (mkF m 41 #[.val (.int p1), .val (.int p2), .val (.long q3), .second, .val (.int (own_i p1)), .val (.ref b1), .unset, .unset, .unset] []))
  refine Gd.st (fun _ k => XS.aload X7.here hx rfl (hb hby at_41) rfl rfl k) ?_
  show Gd p.tables e below _ (T7.setTop (mkF m 43 #[.val (.int p1), .val (.int p2), .val (.long q3), .second, .val (.int (own_i p1)), .val (.ref b1), .unset, .unset, .unset] [(.ref b1)]))
  refine Gd.st (fun _ k => XS.iconst X7.here hx rfl (hb hby at_43) k) ?_
  show Gd p.tables e below _ (T7.setTop (mkF m 44 #[.val (.int p1), .val (.int p2), .val (.long q3), .second, .val (.int (own_i p1)), .val (.ref b1), .unset, .unset, .unset] [(.int (3 : Int32)), (.ref b1)]))
  refine Gd.st (fun _ k => XS.lloadN X7.here hx rfl (hb hby at_44) rfl k) ?_
  show Gd p.tables e below _ (T7.setTop (mkF m 45 #[.val (.int p1), .val (.int p2), .val (.long q3), .second, .val (.int (own_i p1)), .val (.ref b1), .unset, .unset, .unset] [(.long q3), (.int (3 : Int32)), (.ref b1)]))
  refine Gd.st (fun _ k => XS.bipush X7.here hx rfl (hb hby at_45) k) ?_
  show Gd p.tables e below _ (T7.setTop (mkF m 47 #[.val (.int p1), .val (.int p2), .val (.long q3), .second, .val (.int (own_i p1)), .val (.ref b1), .unset, .unset, .unset] [(.int (24 : Int32)), (.long q3), (.int (3 : Int32)), (.ref b1)]))
  refine Gd.st (fun _ k => XS.lshr X7.here hx rfl (hb hby at_47) rfl k) ?_
  show Gd p.tables e below _ (T7.setTop (mkF m 48 #[.val (.int p1), .val (.int p2), .val (.long q3), .second, .val (.int (own_i p1)), .val (.ref b1), .unset, .unset, .unset] [(.long (q3 >>> ((24 : Int32) &&& 0x3f).toInt64)), (.int (3 : Int32)), (.ref b1)]))
  refine Gd.st (fun _ k => XS.l2i X7.here hx rfl (hb hby at_48) rfl k) ?_
  show Gd p.tables e below _ (T7.setTop (mkF m 49 #[.val (.int p1), .val (.int p2), .val (.long q3), .second, .val (.int (own_i p1)), .val (.ref b1), .unset, .unset, .unset] [(.int ((q3 >>> ((24 : Int32) &&& 0x3f).toInt64).toInt32)), (.int (3 : Int32)), (.ref b1)]))
  refine Gd.st (fun _ k => XS.i2b X7.here hx rfl (hb hby at_49) rfl k) ?_
  show Gd p.tables e below _ (T7.setTop (mkF m 50 #[.val (.int p1), .val (.int p2), .val (.long q3), .second, .val (.int (own_i p1)), .val (.ref b1), .unset, .unset, .unset] [(.int (((q3 >>> ((24 : Int32) &&& 0x3f).toInt64).toInt32).toInt8.toInt32)), (.int (3 : Int32)), (.ref b1)]))
  obtain ⟨cl_9, Ar_9, q_9, S_9, N_9, H_9, G_9⟩ := id Va_7
  have hin_9 : ¬ ((3 : Int32) < 0 ∨ cl_9.slots.size ≤ ((3 : Int32)).toNatClampNeg) := inb_of S_9 ⟨by decide, by decide⟩
  obtain ⟨T9, h9, X9, e9, W9, st9⟩ := stB X7 hx hZ e7 Ar_9 (j := (3 : Int32)) hin_9 (g := (mkF m 50 #[.val (.int p1), .val (.int p2), .val (.long q3), .second, .val (.int (own_i p1)), .val (.ref b1), .unset, .unset, .unset] [(.int (((q3 >>> ((24 : Int32) &&& 0x3f).toInt64).toInt32).toInt8.toInt32)), (.int (3 : Int32)), (.ref b1)])) rfl rfl (hb hby at_50)
  refine Gd.st st9 ?_
  have Va_9 : Arv Z h9 b1 k1 .byte (8 : Int32) [(.int (((q3.toInt32).toInt8.toInt32)).toInt8.toInt32), (.int ((((q3 >>> ((8 : Int32) &&& 0x3f).toInt64).toInt32).toInt8.toInt32)).toInt8.toInt32), (.int ((((q3 >>> ((16 : Int32) &&& 0x3f).toInt64).toInt32).toInt8.toInt32)).toInt8.toInt32), (.int ((((q3 >>> ((24 : Int32) &&& 0x3f).toInt64).toInt32).toInt8.toInt32)).toInt8.toInt32), (.int (0 : Int32)), (.int (0 : Int32)), (.int (0 : Int32)), (.int (0 : Int32))] (.int (0 : Int32)) := Arv.set Ar_9 q_9 S_9 N_9 H_9 G_9 (fits_nar_byte _) W9 3 rfl (Nat.le_of_ble_eq_true rfl)
  have N9 := Fr.snoc X9 N7 g_b1
  have Z10 : n0 ≤ h9.size := Nat.le_trans Z8 (Keep.of_wr W9).1
  show Gd p.tables e below _ (T9.setTop (mkF m 51 #[.val (.int p1), .val (.int p2), .val (.long q3), .second, .val (.int (own_i p1)), .val (.ref b1), .unset, .unset, .unset] []))
  refine Gd.st (fun _ k => XS.aload X9.here hx rfl (hb hby at_51) rfl rfl k) ?_
  show Gd p.tables e below _ (T9.setTop (mkF m 53 #[.val (.int p1), .val (.int p2), .val (.long q3), .second, .val (.int (own_i p1)), .val (.ref b1), .unset, .unset, .unset] [(.ref b1)]))
  refine Gd.st (fun _ k => XS.iconst X9.here hx rfl (hb hby at_53) k) ?_
  show Gd p.tables e below _ (T9.setTop (mkF m 54 #[.val (.int p1), .val (.int p2), .val (.long q3), .second, .val (.int (own_i p1)), .val (.ref b1), .unset, .unset, .unset] [(.int (4 : Int32)), (.ref b1)]))
  refine Gd.st (fun _ k => XS.lloadN X9.here hx rfl (hb hby at_54) rfl k) ?_
  show Gd p.tables e below _ (T9.setTop (mkF m 55 #[.val (.int p1), .val (.int p2), .val (.long q3), .second, .val (.int (own_i p1)), .val (.ref b1), .unset, .unset, .unset] [(.long q3), (.int (4 : Int32)), (.ref b1)]))
  refine Gd.st (fun _ k => XS.bipush X9.here hx rfl (hb hby at_55) k) ?_
  show Gd p.tables e below _ (T9.setTop (mkF m 57 #[.val (.int p1), .val (.int p2), .val (.long q3), .second, .val (.int (own_i p1)), .val (.ref b1), .unset, .unset, .unset] [(.int (32 : Int32)), (.long q3), (.int (4 : Int32)), (.ref b1)]))
  refine Gd.st (fun _ k => XS.lshr X9.here hx rfl (hb hby at_57) rfl k) ?_
  show Gd p.tables e below _ (T9.setTop (mkF m 58 #[.val (.int p1), .val (.int p2), .val (.long q3), .second, .val (.int (own_i p1)), .val (.ref b1), .unset, .unset, .unset] [(.long (q3 >>> ((32 : Int32) &&& 0x3f).toInt64)), (.int (4 : Int32)), (.ref b1)]))
  refine Gd.st (fun _ k => XS.l2i X9.here hx rfl (hb hby at_58) rfl k) ?_
  show Gd p.tables e below _ (T9.setTop (mkF m 59 #[.val (.int p1), .val (.int p2), .val (.long q3), .second, .val (.int (own_i p1)), .val (.ref b1), .unset, .unset, .unset] [(.int ((q3 >>> ((32 : Int32) &&& 0x3f).toInt64).toInt32)), (.int (4 : Int32)), (.ref b1)]))
  refine Gd.st (fun _ k => XS.i2b X9.here hx rfl (hb hby at_59) rfl k) ?_
  show Gd p.tables e below _ (T9.setTop (mkF m 60 #[.val (.int p1), .val (.int p2), .val (.long q3), .second, .val (.int (own_i p1)), .val (.ref b1), .unset, .unset, .unset] [(.int (((q3 >>> ((32 : Int32) &&& 0x3f).toInt64).toInt32).toInt8.toInt32)), (.int (4 : Int32)), (.ref b1)]))
  obtain ⟨cl_11, Ar_11, q_11, S_11, N_11, H_11, G_11⟩ := id Va_9
  have hin_11 : ¬ ((4 : Int32) < 0 ∨ cl_11.slots.size ≤ ((4 : Int32)).toNatClampNeg) := inb_of S_11 ⟨by decide, by decide⟩
  obtain ⟨T11, h11, X11, e11, W11, st11⟩ := stB X9 hx hZ e9 Ar_11 (j := (4 : Int32)) hin_11 (g := (mkF m 60 #[.val (.int p1), .val (.int p2), .val (.long q3), .second, .val (.int (own_i p1)), .val (.ref b1), .unset, .unset, .unset] [(.int (((q3 >>> ((32 : Int32) &&& 0x3f).toInt64).toInt32).toInt8.toInt32)), (.int (4 : Int32)), (.ref b1)])) rfl rfl (hb hby at_60)
  refine Gd.st st11 ?_
  have Va_11 : Arv Z h11 b1 k1 .byte (8 : Int32) [(.int (((q3.toInt32).toInt8.toInt32)).toInt8.toInt32), (.int ((((q3 >>> ((8 : Int32) &&& 0x3f).toInt64).toInt32).toInt8.toInt32)).toInt8.toInt32), (.int ((((q3 >>> ((16 : Int32) &&& 0x3f).toInt64).toInt32).toInt8.toInt32)).toInt8.toInt32), (.int ((((q3 >>> ((24 : Int32) &&& 0x3f).toInt64).toInt32).toInt8.toInt32)).toInt8.toInt32), (.int ((((q3 >>> ((32 : Int32) &&& 0x3f).toInt64).toInt32).toInt8.toInt32)).toInt8.toInt32), (.int (0 : Int32)), (.int (0 : Int32)), (.int (0 : Int32))] (.int (0 : Int32)) := Arv.set Ar_11 q_11 S_11 N_11 H_11 G_11 (fits_nar_byte _) W11 4 rfl (Nat.le_of_ble_eq_true rfl)
  have N11 := Fr.snoc X11 N9 g_b1
  have Z12 : n0 ≤ h11.size := Nat.le_trans Z10 (Keep.of_wr W11).1
  show Gd p.tables e below _ (T11.setTop (mkF m 61 #[.val (.int p1), .val (.int p2), .val (.long q3), .second, .val (.int (own_i p1)), .val (.ref b1), .unset, .unset, .unset] []))
  refine Gd.st (fun _ k => XS.aload X11.here hx rfl (hb hby at_61) rfl rfl k) ?_
  show Gd p.tables e below _ (T11.setTop (mkF m 63 #[.val (.int p1), .val (.int p2), .val (.long q3), .second, .val (.int (own_i p1)), .val (.ref b1), .unset, .unset, .unset] [(.ref b1)]))
  refine Gd.st (fun _ k => XS.iconst X11.here hx rfl (hb hby at_63) k) ?_
  show Gd p.tables e below _ (T11.setTop (mkF m 64 #[.val (.int p1), .val (.int p2), .val (.long q3), .second, .val (.int (own_i p1)), .val (.ref b1), .unset, .unset, .unset] [(.int (5 : Int32)), (.ref b1)]))
  refine Gd.st (fun _ k => XS.lloadN X11.here hx rfl (hb hby at_64) rfl k) ?_
  show Gd p.tables e below _ (T11.setTop (mkF m 65 #[.val (.int p1), .val (.int p2), .val (.long q3), .second, .val (.int (own_i p1)), .val (.ref b1), .unset, .unset, .unset] [(.long q3), (.int (5 : Int32)), (.ref b1)]))
  refine Gd.st (fun _ k => XS.bipush X11.here hx rfl (hb hby at_65) k) ?_
  show Gd p.tables e below _ (T11.setTop (mkF m 67 #[.val (.int p1), .val (.int p2), .val (.long q3), .second, .val (.int (own_i p1)), .val (.ref b1), .unset, .unset, .unset] [(.int (40 : Int32)), (.long q3), (.int (5 : Int32)), (.ref b1)]))
  refine Gd.st (fun _ k => XS.lshr X11.here hx rfl (hb hby at_67) rfl k) ?_
  show Gd p.tables e below _ (T11.setTop (mkF m 68 #[.val (.int p1), .val (.int p2), .val (.long q3), .second, .val (.int (own_i p1)), .val (.ref b1), .unset, .unset, .unset] [(.long (q3 >>> ((40 : Int32) &&& 0x3f).toInt64)), (.int (5 : Int32)), (.ref b1)]))
  refine Gd.st (fun _ k => XS.l2i X11.here hx rfl (hb hby at_68) rfl k) ?_
  show Gd p.tables e below _ (T11.setTop (mkF m 69 #[.val (.int p1), .val (.int p2), .val (.long q3), .second, .val (.int (own_i p1)), .val (.ref b1), .unset, .unset, .unset] [(.int ((q3 >>> ((40 : Int32) &&& 0x3f).toInt64).toInt32)), (.int (5 : Int32)), (.ref b1)]))
  refine Gd.st (fun _ k => XS.i2b X11.here hx rfl (hb hby at_69) rfl k) ?_
  show Gd p.tables e below _ (T11.setTop (mkF m 70 #[.val (.int p1), .val (.int p2), .val (.long q3), .second, .val (.int (own_i p1)), .val (.ref b1), .unset, .unset, .unset] [(.int (((q3 >>> ((40 : Int32) &&& 0x3f).toInt64).toInt32).toInt8.toInt32)), (.int (5 : Int32)), (.ref b1)]))
  obtain ⟨cl_13, Ar_13, q_13, S_13, N_13, H_13, G_13⟩ := id Va_11
  have hin_13 : ¬ ((5 : Int32) < 0 ∨ cl_13.slots.size ≤ ((5 : Int32)).toNatClampNeg) := inb_of S_13 ⟨by decide, by decide⟩
  obtain ⟨T13, h13, X13, e13, W13, st13⟩ := stB X11 hx hZ e11 Ar_13 (j := (5 : Int32)) hin_13 (g := (mkF m 70 #[.val (.int p1), .val (.int p2), .val (.long q3), .second, .val (.int (own_i p1)), .val (.ref b1), .unset, .unset, .unset] [(.int (((q3 >>> ((40 : Int32) &&& 0x3f).toInt64).toInt32).toInt8.toInt32)), (.int (5 : Int32)), (.ref b1)])) rfl rfl (hb hby at_70)
  refine Gd.st st13 ?_
  have Va_13 : Arv Z h13 b1 k1 .byte (8 : Int32) [(.int (((q3.toInt32).toInt8.toInt32)).toInt8.toInt32), (.int ((((q3 >>> ((8 : Int32) &&& 0x3f).toInt64).toInt32).toInt8.toInt32)).toInt8.toInt32), (.int ((((q3 >>> ((16 : Int32) &&& 0x3f).toInt64).toInt32).toInt8.toInt32)).toInt8.toInt32), (.int ((((q3 >>> ((24 : Int32) &&& 0x3f).toInt64).toInt32).toInt8.toInt32)).toInt8.toInt32), (.int ((((q3 >>> ((32 : Int32) &&& 0x3f).toInt64).toInt32).toInt8.toInt32)).toInt8.toInt32), (.int ((((q3 >>> ((40 : Int32) &&& 0x3f).toInt64).toInt32).toInt8.toInt32)).toInt8.toInt32), (.int (0 : Int32)), (.int (0 : Int32))] (.int (0 : Int32)) := Arv.set Ar_13 q_13 S_13 N_13 H_13 G_13 (fits_nar_byte _) W13 5 rfl (Nat.le_of_ble_eq_true rfl)
  have N13 := Fr.snoc X13 N11 g_b1
  have Z14 : n0 ≤ h13.size := Nat.le_trans Z12 (Keep.of_wr W13).1
  show Gd p.tables e below _ (T13.setTop (mkF m 71 #[.val (.int p1), .val (.int p2), .val (.long q3), .second, .val (.int (own_i p1)), .val (.ref b1), .unset, .unset, .unset] []))
  refine Gd.st (fun _ k => XS.aload X13.here hx rfl (hb hby at_71) rfl rfl k) ?_
  show Gd p.tables e below _ (T13.setTop (mkF m 73 #[.val (.int p1), .val (.int p2), .val (.long q3), .second, .val (.int (own_i p1)), .val (.ref b1), .unset, .unset, .unset] [(.ref b1)]))
  refine Gd.st (fun _ k => XS.bipush X13.here hx rfl (hb hby at_73) k) ?_
  show Gd p.tables e below _ (T13.setTop (mkF m 75 #[.val (.int p1), .val (.int p2), .val (.long q3), .second, .val (.int (own_i p1)), .val (.ref b1), .unset, .unset, .unset] [(.int (6 : Int32)), (.ref b1)]))
  refine Gd.st (fun _ k => XS.lloadN X13.here hx rfl (hb hby at_75) rfl k) ?_
  show Gd p.tables e below _ (T13.setTop (mkF m 76 #[.val (.int p1), .val (.int p2), .val (.long q3), .second, .val (.int (own_i p1)), .val (.ref b1), .unset, .unset, .unset] [(.long q3), (.int (6 : Int32)), (.ref b1)]))
  refine Gd.st (fun _ k => XS.bipush X13.here hx rfl (hb hby at_76) k) ?_
  show Gd p.tables e below _ (T13.setTop (mkF m 78 #[.val (.int p1), .val (.int p2), .val (.long q3), .second, .val (.int (own_i p1)), .val (.ref b1), .unset, .unset, .unset] [(.int (48 : Int32)), (.long q3), (.int (6 : Int32)), (.ref b1)]))
  refine Gd.st (fun _ k => XS.lshr X13.here hx rfl (hb hby at_78) rfl k) ?_
  show Gd p.tables e below _ (T13.setTop (mkF m 79 #[.val (.int p1), .val (.int p2), .val (.long q3), .second, .val (.int (own_i p1)), .val (.ref b1), .unset, .unset, .unset] [(.long (q3 >>> ((48 : Int32) &&& 0x3f).toInt64)), (.int (6 : Int32)), (.ref b1)]))
  refine Gd.st (fun _ k => XS.l2i X13.here hx rfl (hb hby at_79) rfl k) ?_
  show Gd p.tables e below _ (T13.setTop (mkF m 80 #[.val (.int p1), .val (.int p2), .val (.long q3), .second, .val (.int (own_i p1)), .val (.ref b1), .unset, .unset, .unset] [(.int ((q3 >>> ((48 : Int32) &&& 0x3f).toInt64).toInt32)), (.int (6 : Int32)), (.ref b1)]))
  refine Gd.st (fun _ k => XS.i2b X13.here hx rfl (hb hby at_80) rfl k) ?_
  show Gd p.tables e below _ (T13.setTop (mkF m 81 #[.val (.int p1), .val (.int p2), .val (.long q3), .second, .val (.int (own_i p1)), .val (.ref b1), .unset, .unset, .unset] [(.int (((q3 >>> ((48 : Int32) &&& 0x3f).toInt64).toInt32).toInt8.toInt32)), (.int (6 : Int32)), (.ref b1)]))
  obtain ⟨cl_15, Ar_15, q_15, S_15, N_15, H_15, G_15⟩ := id Va_13
  have hin_15 : ¬ ((6 : Int32) < 0 ∨ cl_15.slots.size ≤ ((6 : Int32)).toNatClampNeg) := inb_of S_15 ⟨by decide, by decide⟩
  obtain ⟨T15, h15, X15, e15, W15, st15⟩ := stB X13 hx hZ e13 Ar_15 (j := (6 : Int32)) hin_15 (g := (mkF m 81 #[.val (.int p1), .val (.int p2), .val (.long q3), .second, .val (.int (own_i p1)), .val (.ref b1), .unset, .unset, .unset] [(.int (((q3 >>> ((48 : Int32) &&& 0x3f).toInt64).toInt32).toInt8.toInt32)), (.int (6 : Int32)), (.ref b1)])) rfl rfl (hb hby at_81)
  refine Gd.st st15 ?_
  have Va_15 : Arv Z h15 b1 k1 .byte (8 : Int32) [(.int (((q3.toInt32).toInt8.toInt32)).toInt8.toInt32), (.int ((((q3 >>> ((8 : Int32) &&& 0x3f).toInt64).toInt32).toInt8.toInt32)).toInt8.toInt32), (.int ((((q3 >>> ((16 : Int32) &&& 0x3f).toInt64).toInt32).toInt8.toInt32)).toInt8.toInt32), (.int ((((q3 >>> ((24 : Int32) &&& 0x3f).toInt64).toInt32).toInt8.toInt32)).toInt8.toInt32), (.int ((((q3 >>> ((32 : Int32) &&& 0x3f).toInt64).toInt32).toInt8.toInt32)).toInt8.toInt32), (.int ((((q3 >>> ((40 : Int32) &&& 0x3f).toInt64).toInt32).toInt8.toInt32)).toInt8.toInt32), (.int ((((q3 >>> ((48 : Int32) &&& 0x3f).toInt64).toInt32).toInt8.toInt32)).toInt8.toInt32), (.int (0 : Int32))] (.int (0 : Int32)) := Arv.set Ar_15 q_15 S_15 N_15 H_15 G_15 (fits_nar_byte _) W15 6 rfl (Nat.le_of_ble_eq_true rfl)
  have N15 := Fr.snoc X15 N13 g_b1
  have Z16 : n0 ≤ h15.size := Nat.le_trans Z14 (Keep.of_wr W15).1
  show Gd p.tables e below _ (T15.setTop (mkF m 82 #[.val (.int p1), .val (.int p2), .val (.long q3), .second, .val (.int (own_i p1)), .val (.ref b1), .unset, .unset, .unset] []))
  refine Gd.st (fun _ k => XS.aload X15.here hx rfl (hb hby at_82) rfl rfl k) ?_
  show Gd p.tables e below _ (T15.setTop (mkF m 84 #[.val (.int p1), .val (.int p2), .val (.long q3), .second, .val (.int (own_i p1)), .val (.ref b1), .unset, .unset, .unset] [(.ref b1)]))
  refine Gd.st (fun _ k => XS.bipush X15.here hx rfl (hb hby at_84) k) ?_
  show Gd p.tables e below _ (T15.setTop (mkF m 86 #[.val (.int p1), .val (.int p2), .val (.long q3), .second, .val (.int (own_i p1)), .val (.ref b1), .unset, .unset, .unset] [(.int (7 : Int32)), (.ref b1)]))
  refine Gd.st (fun _ k => XS.lloadN X15.here hx rfl (hb hby at_86) rfl k) ?_
  show Gd p.tables e below _ (T15.setTop (mkF m 87 #[.val (.int p1), .val (.int p2), .val (.long q3), .second, .val (.int (own_i p1)), .val (.ref b1), .unset, .unset, .unset] [(.long q3), (.int (7 : Int32)), (.ref b1)]))
  refine Gd.st (fun _ k => XS.bipush X15.here hx rfl (hb hby at_87) k) ?_
  show Gd p.tables e below _ (T15.setTop (mkF m 89 #[.val (.int p1), .val (.int p2), .val (.long q3), .second, .val (.int (own_i p1)), .val (.ref b1), .unset, .unset, .unset] [(.int (56 : Int32)), (.long q3), (.int (7 : Int32)), (.ref b1)]))
  refine Gd.st (fun _ k => XS.lshr X15.here hx rfl (hb hby at_89) rfl k) ?_
  show Gd p.tables e below _ (T15.setTop (mkF m 90 #[.val (.int p1), .val (.int p2), .val (.long q3), .second, .val (.int (own_i p1)), .val (.ref b1), .unset, .unset, .unset] [(.long (q3 >>> ((56 : Int32) &&& 0x3f).toInt64)), (.int (7 : Int32)), (.ref b1)]))
  refine Gd.st (fun _ k => XS.l2i X15.here hx rfl (hb hby at_90) rfl k) ?_
  show Gd p.tables e below _ (T15.setTop (mkF m 91 #[.val (.int p1), .val (.int p2), .val (.long q3), .second, .val (.int (own_i p1)), .val (.ref b1), .unset, .unset, .unset] [(.int ((q3 >>> ((56 : Int32) &&& 0x3f).toInt64).toInt32)), (.int (7 : Int32)), (.ref b1)]))
  refine Gd.st (fun _ k => XS.i2b X15.here hx rfl (hb hby at_91) rfl k) ?_
  show Gd p.tables e below _ (T15.setTop (mkF m 92 #[.val (.int p1), .val (.int p2), .val (.long q3), .second, .val (.int (own_i p1)), .val (.ref b1), .unset, .unset, .unset] [(.int (((q3 >>> ((56 : Int32) &&& 0x3f).toInt64).toInt32).toInt8.toInt32)), (.int (7 : Int32)), (.ref b1)]))
  obtain ⟨cl_17, Ar_17, q_17, S_17, N_17, H_17, G_17⟩ := id Va_15
  have hin_17 : ¬ ((7 : Int32) < 0 ∨ cl_17.slots.size ≤ ((7 : Int32)).toNatClampNeg) := inb_of S_17 ⟨by decide, by decide⟩
  obtain ⟨T17, h17, X17, e17, W17, st17⟩ := stB X15 hx hZ e15 Ar_17 (j := (7 : Int32)) hin_17 (g := (mkF m 92 #[.val (.int p1), .val (.int p2), .val (.long q3), .second, .val (.int (own_i p1)), .val (.ref b1), .unset, .unset, .unset] [(.int (((q3 >>> ((56 : Int32) &&& 0x3f).toInt64).toInt32).toInt8.toInt32)), (.int (7 : Int32)), (.ref b1)])) rfl rfl (hb hby at_92)
  refine Gd.st st17 ?_
  have Va_17 : Arv Z h17 b1 k1 .byte (8 : Int32) [(.int (((q3.toInt32).toInt8.toInt32)).toInt8.toInt32), (.int ((((q3 >>> ((8 : Int32) &&& 0x3f).toInt64).toInt32).toInt8.toInt32)).toInt8.toInt32), (.int ((((q3 >>> ((16 : Int32) &&& 0x3f).toInt64).toInt32).toInt8.toInt32)).toInt8.toInt32), (.int ((((q3 >>> ((24 : Int32) &&& 0x3f).toInt64).toInt32).toInt8.toInt32)).toInt8.toInt32), (.int ((((q3 >>> ((32 : Int32) &&& 0x3f).toInt64).toInt32).toInt8.toInt32)).toInt8.toInt32), (.int ((((q3 >>> ((40 : Int32) &&& 0x3f).toInt64).toInt32).toInt8.toInt32)).toInt8.toInt32), (.int ((((q3 >>> ((48 : Int32) &&& 0x3f).toInt64).toInt32).toInt8.toInt32)).toInt8.toInt32), (.int ((((q3 >>> ((56 : Int32) &&& 0x3f).toInt64).toInt32).toInt8.toInt32)).toInt8.toInt32)] (.int (0 : Int32)) := Arv.set Ar_17 q_17 S_17 N_17 H_17 G_17 (fits_nar_byte _) W17 7 rfl (Nat.le_of_ble_eq_true rfl)
  have N17 := Fr.snoc X17 N15 g_b1
  have Z18 : n0 ≤ h17.size := Nat.le_trans Z16 (Keep.of_wr W17).1
  show Gd p.tables e below _ (T17.setTop (mkF m 93 #[.val (.int p1), .val (.int p2), .val (.long q3), .second, .val (.int (own_i p1)), .val (.ref b1), .unset, .unset, .unset] []))
  obtain ⟨fx, Vx⟩ : ∃ f : Nat → Int32, Arv Z h17 b1 k1 .byte (8 : Int32) (own_vs f) (.int (0 : Int32)) := ⟨own_f8 ((((q3.toInt32).toInt8.toInt32)).toInt8.toInt32) (((((q3 >>> ((8 : Int32) &&& 0x3f).toInt64).toInt32).toInt8.toInt32)).toInt8.toInt32) (((((q3 >>> ((16 : Int32) &&& 0x3f).toInt64).toInt32).toInt8.toInt32)).toInt8.toInt32) (((((q3 >>> ((24 : Int32) &&& 0x3f).toInt64).toInt32).toInt8.toInt32)).toInt8.toInt32) (((((q3 >>> ((32 : Int32) &&& 0x3f).toInt64).toInt32).toInt8.toInt32)).toInt8.toInt32) (((((q3 >>> ((40 : Int32) &&& 0x3f).toInt64).toInt32).toInt8.toInt32)).toInt8.toInt32) (((((q3 >>> ((48 : Int32) &&& 0x3f).toInt64).toInt32).toInt8.toInt32)).toInt8.toInt32) (((((q3 >>> ((56 : Int32) &&& 0x3f).toInt64).toInt32).toInt8.toInt32)).toInt8.toInt32), Va_17⟩
  obtain ⟨T19, h19, X19, e19, E19, A19, D19, -, st19⟩ := newO X17 hx hZ hown (hw _ (List.mem_of_getElem? (i := 2) rfl)) (hw _ (List.mem_of_getElem? (i := 3) rfl)) (hw _ (List.mem_of_getElem? (i := 4) rfl)) e17 (g := (mkF m 93 #[.val (.int p1), .val (.int p2), .val (.long q3), .second, .val (.int (own_i p1)), .val (.ref b1), .unset, .unset, .unset] [])) rfl (hb hby at_93) (by decide) (by decide)
  obtain ⟨b19, g19⟩ : ∃ z, z = h17.size := ⟨_, rfl⟩
  rw [← g19] at A19 D19 st19
  refine Gd.st st19 ?_
  have ne_b1_b19 : b1 ≠ b19 := Nat.ne_of_lt (Nat.lt_of_lt_of_le Vx.lt (Nat.le_of_eq g19.symm))
  have g_b19 : n0 ≤ b19 := Nat.le_trans Z18 (Nat.le_of_eq g19.symm)
  have Z20 : n0 ≤ h19.size := Nat.le_trans Z18 E19.1
  have F_bytes_b19 : Fld Z h19 b19 "com/example/geogauge/geogauge/data/ByteBuilder" "bytes" "[B" .null := D19 (Or.inl (hw _ (List.mem_of_getElem? (i := 12) rfl))) (ty := (.array .byte)) (by decide)
  have F_length_b19 : Fld Z h19 b19 "com/example/geogauge/geogauge/data/ByteBuilder" "length" "I" (.int (0 : Int32)) := D19 (Or.inl (hw _ (List.mem_of_getElem? (i := 28) rfl))) (ty := .int) (by decide)
  show Gd p.tables e below _ (T19.setTop (mkF m 96 #[.val (.int p1), .val (.int p2), .val (.long q3), .second, .val (.int (own_i p1)), .val (.ref b1), .unset, .unset, .unset] [(.ref b19)]))
  refine Gd.st (fun _ k => XS.dup X19.here hx rfl (hb hby at_96) rfl rfl k) ?_
  show Gd p.tables e below _ (T19.setTop (mkF m 97 #[.val (.int p1), .val (.int p2), .val (.long q3), .second, .val (.int (own_i p1)), .val (.ref b1), .unset, .unset, .unset] [(.ref b19), (.ref b19)]))
  refine Gd.st (fun _ k => XS.bipush X19.here hx rfl (hb hby at_97) k) ?_
  show Gd p.tables e below _ (T19.setTop (mkF m 99 #[.val (.int p1), .val (.int p2), .val (.long q3), .second, .val (.int (own_i p1)), .val (.ref b1), .unset, .unset, .unset] [(.int (8 : Int32)), (.ref b19), (.ref b19)]))
  obtain ⟨_, _, ⟨T21, L21, k21, n21⟩, -, X21, ⟨Lc21, hQ21, l21, y21, z21⟩, st21⟩ := X19.specialBack hx (y := (⟨"com/example/geogauge/geogauge/data/ByteBuilder", "<init>", "(I)V"⟩ : MethodName)) rfl hown (mvT hZ (hw _ (List.mem_of_getElem? (i := 5) rfl))) (mvT hZ (hw _ (List.mem_of_getElem? (i := 6) rfl))) (mvT hZ (hw _ (List.mem_of_getElem? (i := 7) rfl))) (by decide) (backOf (W := 1) (rm1 l Z a0 hw [] b19 (8 : Int32) h19 n0 Z20 rfl A19 F_bytes_b19 F_length_b19 g_b19) hZ (hw _ (List.mem_of_getElem? (i := 7) rfl)) (hw _ (List.mem_of_getElem? (i := 4) rfl)) (by decide) (by decide)) (g := (mkF m 99 #[.val (.int p1), .val (.int p2), .val (.long q3), .second, .val (.int (own_i p1)), .val (.ref b1), .unset, .unset, .unset] [(.int (8 : Int32)), (.ref b19), (.ref b19)])) rfl (by rw [hml]; rfl) (Steps.refl _) (a := b19) (argsL := [(.int (8 : Int32))]) (rest := [(.ref b19)]) (lenOf pd__I_V_4 rfl) rfl (by show 2 * 0 + _ ≤ _; exact Nat.le_of_eq rfl) (hb hby at_99) (fun _ _ => ⟨rfl, e19, (by decide : 2 + 1 ≤ _), (by decide : 10 + 8 ≤ _)⟩)
  dsimp only [Pt.U, Pt.locs, Pt.cells, Pt.slots] at X21 l21 y21 z21 st21 hQ21
  simp only [Nat.add_zero, Nat.zero_add, Nat.reduceAdd] at y21 z21
  subst y21 z21
  obtain ⟨rfl, N21q, K21, A21, kk21, F21_0, F21_1, V21⟩ := hQ21
  have N21 : Fr n0 L21 := by rw [l21]; exact Fr.app N17 N21q
  clear l21
  obtain ⟨b21, gb21⟩ : ∃ z, z = h19.size := ⟨_, rfl⟩
  rw [← gb21] at F21_0 V21
  have q22 := (Vx.ext E19)
  have ne_b1_b21 : b1 ≠ b21 := Nat.ne_of_lt (Nat.lt_of_lt_of_le q22.lt (Nat.le_of_eq gb21.symm))
  have ne_b19_b21 : b19 ≠ b21 := Nat.ne_of_lt (Nat.lt_of_lt_of_le A19.lt (Nat.le_of_eq gb21.symm))
  have g_b21 : n0 ≤ b21 := Nat.le_trans Z20 (Nat.le_of_eq gb21.symm)
  refine Gd.st (fun _ k => st21.trans k) ?_
  have Z23 : n0 ≤ T21.heap.size := Nat.le_trans Z20 K21.1
  show Gd p.tables e below _ (T21.setTop (mkF m 102 #[.val (.int p1), .val (.int p2), .val (.long q3), .second, .val (.int (own_i p1)), .val (.ref b1), .unset, .unset, .unset] [(.ref b19)]))
  refine Gd.st (fun _ k => XS.astore X21.here hx rfl (hb hby at_102) rfl rfl (l' := #[.val (.int p1), .val (.int p2), .val (.long q3), .second, .val (.int (own_i p1)), .val (.ref b1), .val (.ref b19), .unset, .unset]) rfl k) ?_
  show Gd p.tables e below _ (T21.setTop (mkF m 104 #[.val (.int p1), .val (.int p2), .val (.long q3), .second, .val (.int (own_i p1)), .val (.ref b1), .val (.ref b19), .unset, .unset] []))
  refine Gd.st (fun _ k => XS.aload X21.here hx rfl (hb hby at_104) rfl rfl k) ?_
  show Gd p.tables e below _ (T21.setTop (mkF m 106 #[.val (.int p1), .val (.int p2), .val (.long q3), .second, .val (.int (own_i p1)), .val (.ref b1), .val (.ref b19), .unset, .unset] [(.ref b19)]))
  refine Gd.st (fun _ k => XS.aload X21.here hx rfl (hb hby at_106) rfl rfl k) ?_
  show Gd p.tables e below _ (T21.setTop (mkF m 108 #[.val (.int p1), .val (.int p2), .val (.long q3), .second, .val (.int (own_i p1)), .val (.ref b1), .val (.ref b19), .unset, .unset] [(.ref b1), (.ref b19)]))
  have q25 := (q22.keep K21 (ninS ne_b1_b19 nin0))
  obtain ⟨cq24, kq24, q24a, q24b, q24c⟩ := isOf hZ rfl A21
  obtain ⟨_, _, ⟨T24, L24, k24, n24⟩, -, X24, ⟨Lc24, hQ24, l24, y24, z24⟩, st24⟩ := X21.virtualBack hx (y := (⟨"com/example/geogauge/geogauge/data/ByteBuilder", "append", "([B)Lcom/example/geogauge/geogauge/data/ByteBuilder;"⟩ : MethodName)) (z := (⟨"com/example/geogauge/geogauge/data/ByteBuilder", "append", "([B)Lcom/example/geogauge/geogauge/data/ByteBuilder;"⟩ : MethodName)) hown (mvT hZ (hw _ (List.mem_of_getElem? (i := 13) rfl))) (mvT hZ (hw _ (List.mem_of_getElem? (i := 14) rfl))) (notFace_of_selects (args := #[]) (mvT hZ (hw _ (List.mem_of_getElem? (i := 16) rfl)))) (mvT hZ (hw _ (List.mem_of_getElem? (i := 16) rfl))) (mvT hZ (hw _ (List.mem_of_getElem? (i := 15) rfl))) (by decide) (backOf (W := 0) (rm3 l Z a0 hw [] b19 b1 b21 k1 fx kk21 own_zz T21.heap n0 Z23 A21 F21_0 F21_1 q25 V21 (Ne.symm ne_b19_b21) ne_b1_b21 g_b19 g_b21) hZ (hw _ (List.mem_of_getElem? (i := 17) rfl)) (hw _ (List.mem_of_getElem? (i := 4) rfl)) (by decide) (by decide)) q24a q24c (g := (mkF m 108 #[.val (.int p1), .val (.int p2), .val (.long q3), .second, .val (.int (own_i p1)), .val (.ref b1), .val (.ref b19), .unset, .unset] [(.ref b1), (.ref b19)])) rfl (by rw [hml]; rfl) (Steps.refl _) (argsL := [(.ref b1)]) (rest := []) (lenOf pd_ByteBuilder__52 rfl) rfl (by show 2 * 0 + _ ≤ _; exact Nat.le_of_eq rfl) (hb hby at_108) (fun _ _ => ⟨rfl, rfl, (by decide : 3 + 0 ≤ _), (by decide : 18 + 0 ≤ _)⟩)
  dsimp only [Pt.U, Pt.locs, Pt.cells, Pt.slots] at X24 l24 y24 z24 st24 hQ24
  simp only [Nat.add_zero, Nat.zero_add, Nat.reduceAdd] at y24 z24
  subst y24 z24
  obtain ⟨rfl, N24q, K24, A24, F24_0, F24_1, V24⟩ := hQ24
  have N24 : Fr n0 L24 := by rw [l24]; exact Fr.app N21 N24q
  clear l24
  refine Gd.st (fun _ k => st24.trans k) ?_
  have Z26 : n0 ≤ T24.heap.size := Nat.le_trans Z23 K24.1
  show Gd p.tables e below _ (T24.setTop (mkF m 111 #[.val (.int p1), .val (.int p2), .val (.long q3), .second, .val (.int (own_i p1)), .val (.ref b1), .val (.ref b19), .unset, .unset] [(.ref b19)]))
  refine Gd.st (fun _ k => XS.pop X24.here hx rfl (hb hby at_111) rfl rfl k) ?_
  show Gd p.tables e below _ (T24.setTop (mkF m 112 #[.val (.int p1), .val (.int p2), .val (.long q3), .second, .val (.int (own_i p1)), .val (.ref b1), .val (.ref b19), .unset, .unset] []))
  refine Gd.st (fun _ k => XS.aload X24.here hx rfl (hb hby at_112) rfl rfl k) ?_
  show Gd p.tables e below _ (T24.setTop (mkF m 114 #[.val (.int p1), .val (.int p2), .val (.long q3), .second, .val (.int (own_i p1)), .val (.ref b1), .val (.ref b19), .unset, .unset] [(.ref b19)]))
  refine Gd.st (fun _ k => XS.iload X24.here hx rfl (hb hby at_114) rfl k) ?_
  show Gd p.tables e below _ (T24.setTop (mkF m 116 #[.val (.int p1), .val (.int p2), .val (.long q3), .second, .val (.int (own_i p1)), .val (.ref b1), .val (.ref b19), .unset, .unset] [(.int (own_i p1)), (.ref b19)]))
  refine Gd.st (fun _ k => XS.iloadN X24.here hx rfl (hb hby at_116) rfl k) ?_
  show Gd p.tables e below _ (T24.setTop (mkF m 117 #[.val (.int p1), .val (.int p2), .val (.long q3), .second, .val (.int (own_i p1)), .val (.ref b1), .val (.ref b19), .unset, .unset] [(.int p2), (.int (own_i p1)), (.ref b19)]))
  obtain ⟨cq27, kq27, q27a, q27b, q27c⟩ := isOf hZ rfl A24
  obtain ⟨_, _, ⟨T27, L27, k27, n27⟩, -, X27, ⟨Lc27, hQ27, l27, y27, z27⟩, st27⟩ := X24.virtualBack hx (y := (⟨"com/example/geogauge/geogauge/data/ByteBuilder", "setInt", "(II)V"⟩ : MethodName)) (z := (⟨"com/example/geogauge/geogauge/data/ByteBuilder", "setInt", "(II)V"⟩ : MethodName)) hown (mvT hZ (hw _ (List.mem_of_getElem? (i := 33) rfl))) (mvT hZ (hw _ (List.mem_of_getElem? (i := 34) rfl))) (notFace_of_selects (args := #[]) (mvT hZ (hw _ (List.mem_of_getElem? (i := 36) rfl)))) (mvT hZ (hw _ (List.mem_of_getElem? (i := 36) rfl))) (mvT hZ (hw _ (List.mem_of_getElem? (i := 35) rfl))) (by decide) (backOf (W := 0) (rm6 l Z a0 hw [] b19 (own_i p1) p2 b21 kk21 fx T24.heap n0 Z26 F24_0 V24 ne_b19_b21 g_b21 (own_i5 p1)) hZ (hw _ (List.mem_of_getElem? (i := 37) rfl)) (hw _ (List.mem_of_getElem? (i := 4) rfl)) (by decide) (by decide)) q27a q27c (g := (mkF m 117 #[.val (.int p1), .val (.int p2), .val (.long q3), .second, .val (.int (own_i p1)), .val (.ref b1), .val (.ref b19), .unset, .unset] [(.int p2), (.int (own_i p1)), (.ref b19)])) rfl (by rw [hml]; rfl) (Steps.refl _) (argsL := [(.int (own_i p1)), (.int p2)]) (rest := []) (lenOf pd__II_V_5 rfl) rfl (by show 2 * 0 + _ ≤ _; exact Nat.le_of_eq rfl) (hb hby at_117) (fun _ _ => ⟨rfl, rfl, (by decide : 3 + 0 ≤ _), (by decide : 18 + 0 ≤ _)⟩)
  dsimp only [Pt.U, Pt.locs, Pt.cells, Pt.slots] at X27 l27 y27 z27 st27 hQ27
  simp only [Nat.add_zero, Nat.zero_add, Nat.reduceAdd] at y27 z27
  subst y27 z27
  obtain ⟨rfl, N27q, K27, V27⟩ := hQ27
  have N27 : Fr n0 L27 := by rw [l27]; exact Fr.app N24 N27q
  clear l27
  refine Gd.st (fun _ k => st27.trans k) ?_
  have Z28 : n0 ≤ T27.heap.size := Nat.le_trans Z26 K27.1
  show Gd p.tables e below _ (T27.setTop (mkF m 120 #[.val (.int p1), .val (.int p2), .val (.long q3), .second, .val (.int (own_i p1)), .val (.ref b1), .val (.ref b19), .unset, .unset] []))
  refine Gd.st (fun _ k => XS.bipush X27.here hx rfl (hb hby at_120) k) ?_
  show Gd p.tables e below _ (T27.setTop (mkF m 122 #[.val (.int p1), .val (.int p2), .val (.long q3), .second, .val (.int (own_i p1)), .val (.ref b1), .val (.ref b19), .unset, .unset] [(.int (8 : Int32))]))
  obtain ⟨T29, h29, k29, X29, e29, E29, A29, st29⟩ := newP X27 hx hZ (hw _ (List.mem_of_getElem? (i := 1) rfl)) rfl (g := (mkF m 122 #[.val (.int p1), .val (.int p2), .val (.long q3), .second, .val (.int (own_i p1)), .val (.ref b1), .val (.ref b19), .unset, .unset] [(.int (8 : Int32))])) rfl (hb hby at_122) rfl (by decide) (cap := 8) (by decide) (by decide) (by decide) (by decide)
  obtain ⟨b29, g29⟩ : ∃ z, z = T27.heap.size := ⟨_, rfl⟩
  rw [← g29] at A29 st29
  refine Gd.st st29 ?_
  have q30 := ((q25.keep K24 (ninS ne_b1_b19 (ninS ne_b1_b21 nin0))).keep K27 (ninS ne_b1_b21 nin0))
  have ne_b1_b29 : b1 ≠ b29 := Nat.ne_of_lt (Nat.lt_of_lt_of_le q30.lt (Nat.le_of_eq g29.symm))
  have q31 := (A24.keep K27)
  have ne_b19_b29 : b19 ≠ b29 := Nat.ne_of_lt (Nat.lt_of_lt_of_le q31.lt (Nat.le_of_eq g29.symm))
  have ne_b21_b29 : b21 ≠ b29 := Nat.ne_of_lt (Nat.lt_of_lt_of_le V27.lt (Nat.le_of_eq g29.symm))
  have g_b29 : n0 ≤ b29 := Nat.le_trans Z28 (Nat.le_of_eq g29.symm)
  have Z32 : n0 ≤ h29.size := Nat.le_trans Z28 E29.1
  have V_b29 : Arv Z h29 b29 k29 .byte (8 : Int32) [(.int (0 : Int32)), (.int (0 : Int32)), (.int (0 : Int32)), (.int (0 : Int32)), (.int (0 : Int32)), (.int (0 : Int32)), (.int (0 : Int32)), (.int (0 : Int32))] (.int (0 : Int32)) := (Arv.new A29 (by decide)).pad (pad_rep [] (.int (0 : Int32)) 8)
  show Gd p.tables e below _ (T29.setTop (mkF m 124 #[.val (.int p1), .val (.int p2), .val (.long q3), .second, .val (.int (own_i p1)), .val (.ref b1), .val (.ref b19), .unset, .unset] [(.ref b29)]))
  have Vz : Arv Z h29 b29 k29 .byte (8 : Int32) (own_vs own_zz) (.int (0 : Int32)) := V_b29
  refine Gd.st (fun _ k => XS.astore X29.here hx rfl (hb hby at_124) rfl rfl (l' := #[.val (.int p1), .val (.int p2), .val (.long q3), .second, .val (.int (own_i p1)), .val (.ref b1), .val (.ref b19), .val (.ref b29), .unset]) rfl k) ?_
  show Gd p.tables e below _ (T29.setTop (mkF m 126 #[.val (.int p1), .val (.int p2), .val (.long q3), .second, .val (.int (own_i p1)), .val (.ref b1), .val (.ref b19), .val (.ref b29), .unset] []))
  refine Gd.st (fun _ k => XS.aload X29.here hx rfl (hb hby at_126) rfl rfl k) ?_
  show Gd p.tables e below _ (T29.setTop (mkF m 128 #[.val (.int p1), .val (.int p2), .val (.long q3), .second, .val (.int (own_i p1)), .val (.ref b1), .val (.ref b19), .val (.ref b29), .unset] [(.ref b19)]))
  refine Gd.st (fun _ k => XS.iconst X29.here hx rfl (hb hby at_128) k) ?_
  show Gd p.tables e below _ (T29.setTop (mkF m 129 #[.val (.int p1), .val (.int p2), .val (.long q3), .second, .val (.int (own_i p1)), .val (.ref b1), .val (.ref b19), .val (.ref b29), .unset] [(.int (0 : Int32)), (.ref b19)]))
  refine Gd.st (fun _ k => XS.aload X29.here hx rfl (hb hby at_129) rfl rfl k) ?_
  show Gd p.tables e below _ (T29.setTop (mkF m 131 #[.val (.int p1), .val (.int p2), .val (.long q3), .second, .val (.int (own_i p1)), .val (.ref b1), .val (.ref b19), .val (.ref b29), .unset] [(.ref b29), (.int (0 : Int32)), (.ref b19)]))
  refine Gd.st (fun _ k => XS.iconst X29.here hx rfl (hb hby at_131) k) ?_
  show Gd p.tables e below _ (T29.setTop (mkF m 132 #[.val (.int p1), .val (.int p2), .val (.long q3), .second, .val (.int (own_i p1)), .val (.ref b1), .val (.ref b19), .val (.ref b29), .unset] [(.int (0 : Int32)), (.ref b29), (.int (0 : Int32)), (.ref b19)]))
  refine Gd.st (fun _ k => XS.bipush X29.here hx rfl (hb hby at_132) k) ?_
  show Gd p.tables e below _ (T29.setTop (mkF m 134 #[.val (.int p1), .val (.int p2), .val (.long q3), .second, .val (.int (own_i p1)), .val (.ref b1), .val (.ref b19), .val (.ref b29), .unset] [(.int (8 : Int32)), (.int (0 : Int32)), (.ref b29), (.int (0 : Int32)), (.ref b19)]))
  have q34 := ((F24_0.keep K27 (ninS ne_b19_b21 nin0)).ext E29)
  have q35 := (V27.ext E29)
  have q36 := (q31.ext E29)
  obtain ⟨cq33, kq33, q33a, q33b, q33c⟩ := isOf hZ e29 q36
  obtain ⟨_, _, ⟨T33, L33, k33, n33⟩, -, X33, ⟨Lc33, hQ33, l33, y33, z33⟩, st33⟩ := X29.virtualBack hx (y := (⟨"com/example/geogauge/geogauge/data/ByteBuilder", "copyTo", "(I[BII)V"⟩ : MethodName)) (z := (⟨"com/example/geogauge/geogauge/data/ByteBuilder", "copyTo", "(I[BII)V"⟩ : MethodName)) hown (mvT hZ (hw _ (List.mem_of_getElem? (i := 38) rfl))) (mvT hZ (hw _ (List.mem_of_getElem? (i := 39) rfl))) (notFace_of_selects (args := #[]) (mvT hZ (hw _ (List.mem_of_getElem? (i := 41) rfl)))) (mvT hZ (hw _ (List.mem_of_getElem? (i := 41) rfl))) (mvT hZ (hw _ (List.mem_of_getElem? (i := 40) rfl))) (by decide) (backOf (W := 0) (rm7 l Z a0 hw [] b19 (0 : Int32) b29 (0 : Int32) (8 : Int32) b21 kk21 (own_set4 fx (own_i p1) p2) k29 own_zz h29 n0 Z32 rfl rfl rfl q34 q35 Vz g_b29) hZ (hw _ (List.mem_of_getElem? (i := 42) rfl)) (hw _ (List.mem_of_getElem? (i := 4) rfl)) (by decide) (by decide)) q33a q33c (g := (mkF m 134 #[.val (.int p1), .val (.int p2), .val (.long q3), .second, .val (.int (own_i p1)), .val (.ref b1), .val (.ref b19), .val (.ref b29), .unset] [(.int (8 : Int32)), (.int (0 : Int32)), (.ref b29), (.int (0 : Int32)), (.ref b19)])) rfl (by rw [hml]; rfl) (Steps.refl _) (argsL := [(.int (0 : Int32)), (.ref b29), (.int (0 : Int32)), (.int (8 : Int32))]) (rest := []) (lenOf pd__IABII_V_8 rfl) rfl (by show 2 * 0 + _ ≤ _; exact Nat.le_of_eq rfl) (hb hby at_134) (fun _ _ => ⟨rfl, e29, (by decide : 4 + 0 ≤ _), (by decide : 26 + 0 ≤ _)⟩)
  dsimp only [Pt.U, Pt.locs, Pt.cells, Pt.slots] at X33 l33 y33 z33 st33 hQ33
  simp only [Nat.add_zero, Nat.zero_add, Nat.reduceAdd] at y33 z33
  subst y33 z33
  obtain ⟨rfl, N33q, K33, V33⟩ := hQ33
  have N33 : Fr n0 L33 := by rw [l33]; exact Fr.app N27 N33q
  clear l33
  refine Gd.st (fun _ k => st33.trans k) ?_
  have Z37 : n0 ≤ T33.heap.size := Nat.le_trans Z32 K33.1
  show Gd p.tables e below _ (T33.setTop (mkF m 137 #[.val (.int p1), .val (.int p2), .val (.long q3), .second, .val (.int (own_i p1)), .val (.ref b1), .val (.ref b19), .val (.ref b29), .unset] []))
  refine Gd.st (fun _ k => XS.aload X33.here hx rfl (hb hby at_137) rfl rfl k) ?_
  show Gd p.tables e below _ (T33.setTop (mkF m 139 #[.val (.int p1), .val (.int p2), .val (.long q3), .second, .val (.int (own_i p1)), .val (.ref b1), .val (.ref b19), .val (.ref b29), .unset] [(.ref b29)]))
  refine Gd.st (fun _ k => XS.iload X33.here hx rfl (hb hby at_139) rfl k) ?_
  show Gd p.tables e below _ (T33.setTop (mkF m 141 #[.val (.int p1), .val (.int p2), .val (.long q3), .second, .val (.int (own_i p1)), .val (.ref b1), .val (.ref b19), .val (.ref b29), .unset] [(.int (own_i p1)), (.ref b29)]))
  obtain ⟨cl_38, Ar_38, q_38, S_38, N_38, H_38, G_38⟩ := id V33
  have hin_38 : ¬ ((own_i p1) < 0 ∨ cl_38.slots.size ≤ ((own_i p1)).toNatClampNeg) := inb_of S_38 ((own_ibc _ (own_i5 p1)).1)
  have hat_38 : cl_38.slots[((own_i p1)).toNatClampNeg]? = some (.int ((own_set4 fx (own_i p1) p2) ((own_i p1)).toNatClampNeg)) := H_38.at hin_38 (own_get _ _ (own_lt _ ((own_ibc _ (own_i5 p1)).1)))
  refine Gd.st (fun _ k => X33.baloadBytes hx (j := (own_i p1)) (v := (.int ((own_set4 fx (own_i p1) p2) ((own_i p1)).toNatClampNeg))) Ar_38.1 (State.isArrayOf_alike hZ.alike Ar_38.2.1) Ar_38.2.2 hin_38 hat_38 (g := (mkF m 141 #[.val (.int p1), .val (.int p2), .val (.long q3), .second, .val (.int (own_i p1)), .val (.ref b1), .val (.ref b19), .val (.ref b29), .unset] [(.int (own_i p1)), (.ref b29)])) rfl rfl (hb hby at_141) _ k) ?_
  show Gd p.tables e below _ (T33.setTop (mkF m 142 #[.val (.int p1), .val (.int p2), .val (.long q3), .second, .val (.int (own_i p1)), .val (.ref b1), .val (.ref b19), .val (.ref b29), .unset] [(.int ((own_set4 fx (own_i p1) p2) ((own_i p1)).toNatClampNeg))]))
  refine Gd.st (fun _ k => XS.sipush X33.here hx rfl (hb hby at_142) k) ?_
  show Gd p.tables e below _ (T33.setTop (mkF m 145 #[.val (.int p1), .val (.int p2), .val (.long q3), .second, .val (.int (own_i p1)), .val (.ref b1), .val (.ref b19), .val (.ref b29), .unset] [(.int (255 : Int32)), (.int ((own_set4 fx (own_i p1) p2) ((own_i p1)).toNatClampNeg))]))
  refine Gd.st (fun _ k => XS.iand X33.here hx rfl (hb hby at_145) rfl k) ?_
  show Gd p.tables e below _ (T33.setTop (mkF m 146 #[.val (.int p1), .val (.int p2), .val (.long q3), .second, .val (.int (own_i p1)), .val (.ref b1), .val (.ref b19), .val (.ref b29), .unset] [(.int (((own_set4 fx (own_i p1) p2) ((own_i p1)).toNatClampNeg) &&& (255 : Int32)))]))
  refine Gd.st (fun _ k => XS.bipush X33.here hx rfl (hb hby at_146) k) ?_
  show Gd p.tables e below _ (T33.setTop (mkF m 148 #[.val (.int p1), .val (.int p2), .val (.long q3), .second, .val (.int (own_i p1)), .val (.ref b1), .val (.ref b19), .val (.ref b29), .unset] [(.int (24 : Int32)), (.int (((own_set4 fx (own_i p1) p2) ((own_i p1)).toNatClampNeg) &&& (255 : Int32)))]))
  refine Gd.st (fun _ k => XS.ishl X33.here hx rfl (hb hby at_148) rfl k) ?_
  show Gd p.tables e below _ (T33.setTop (mkF m 149 #[.val (.int p1), .val (.int p2), .val (.long q3), .second, .val (.int (own_i p1)), .val (.ref b1), .val (.ref b19), .val (.ref b29), .unset] [(.int ((((own_set4 fx (own_i p1) p2) ((own_i p1)).toNatClampNeg) &&& (255 : Int32)) <<< ((24 : Int32) &&& 31)))]))
  refine Gd.st (fun _ k => XS.aload X33.here hx rfl (hb hby at_149) rfl rfl k) ?_
  show Gd p.tables e below _ (T33.setTop (mkF m 151 #[.val (.int p1), .val (.int p2), .val (.long q3), .second, .val (.int (own_i p1)), .val (.ref b1), .val (.ref b19), .val (.ref b29), .unset] [(.ref b29), (.int ((((own_set4 fx (own_i p1) p2) ((own_i p1)).toNatClampNeg) &&& (255 : Int32)) <<< ((24 : Int32) &&& 31)))]))
  refine Gd.st (fun _ k => XS.iload X33.here hx rfl (hb hby at_151) rfl k) ?_
  show Gd p.tables e below _ (T33.setTop (mkF m 153 #[.val (.int p1), .val (.int p2), .val (.long q3), .second, .val (.int (own_i p1)), .val (.ref b1), .val (.ref b19), .val (.ref b29), .unset] [(.int (own_i p1)), (.ref b29), (.int ((((own_set4 fx (own_i p1) p2) ((own_i p1)).toNatClampNeg) &&& (255 : Int32)) <<< ((24 : Int32) &&& 31)))]))
  refine Gd.st (fun _ k => XS.iconst X33.here hx rfl (hb hby at_153) k) ?_
  show Gd p.tables e below _ (T33.setTop (mkF m 154 #[.val (.int p1), .val (.int p2), .val (.long q3), .second, .val (.int (own_i p1)), .val (.ref b1), .val (.ref b19), .val (.ref b29), .unset] [(.int (1 : Int32)), (.int (own_i p1)), (.ref b29), (.int ((((own_set4 fx (own_i p1) p2) ((own_i p1)).toNatClampNeg) &&& (255 : Int32)) <<< ((24 : Int32) &&& 31)))]))
  refine Gd.st (fun _ k => XS.iadd X33.here hx rfl (hb hby at_154) rfl k) ?_
  show Gd p.tables e below _ (T33.setTop (mkF m 155 #[.val (.int p1), .val (.int p2), .val (.long q3), .second, .val (.int (own_i p1)), .val (.ref b1), .val (.ref b19), .val (.ref b29), .unset] [(.int ((own_i p1) + (1 : Int32))), (.ref b29), (.int ((((own_set4 fx (own_i p1) p2) ((own_i p1)).toNatClampNeg) &&& (255 : Int32)) <<< ((24 : Int32) &&& 31)))]))
  obtain ⟨cl_39, Ar_39, q_39, S_39, N_39, H_39, G_39⟩ := id V33
  have hin_39 : ¬ (((own_i p1) + (1 : Int32)) < 0 ∨ cl_39.slots.size ≤ (((own_i p1) + (1 : Int32))).toNatClampNeg) := inb_of S_39 ((own_ibc _ (own_i5 p1)).2.1)
  have hat_39 : cl_39.slots[(((own_i p1) + (1 : Int32))).toNatClampNeg]? = some (.int ((own_set4 fx (own_i p1) p2) (((own_i p1) + (1 : Int32))).toNatClampNeg)) := H_39.at hin_39 (own_get _ _ (own_lt _ ((own_ibc _ (own_i5 p1)).2.1)))
  refine Gd.st (fun _ k => X33.baloadBytes hx (j := ((own_i p1) + (1 : Int32))) (v := (.int ((own_set4 fx (own_i p1) p2) (((own_i p1) + (1 : Int32))).toNatClampNeg))) Ar_39.1 (State.isArrayOf_alike hZ.alike Ar_39.2.1) Ar_39.2.2 hin_39 hat_39 (g := (mkF m 155 #[.val (.int p1), .val (.int p2), .val (.long q3), .second, .val (.int (own_i p1)), .val (.ref b1), .val (.ref b19), .val (.ref b29), .unset] [(.int ((own_i p1) + (1 : Int32))), (.ref b29), (.int ((((own_set4 fx (own_i p1) p2) ((own_i p1)).toNatClampNeg) &&& (255 : Int32)) <<< ((24 : Int32) &&& 31)))])) rfl rfl (hb hby at_155) _ k) ?_
  show Gd p.tables e below _ (T33.setTop (mkF m 156 #[.val (.int p1), .val (.int p2), .val (.long q3), .second, .val (.int (own_i p1)), .val (.ref b1), .val (.ref b19), .val (.ref b29), .unset] [(.int ((own_set4 fx (own_i p1) p2) (((own_i p1) + (1 : Int32))).toNatClampNeg)), (.int ((((own_set4 fx (own_i p1) p2) ((own_i p1)).toNatClampNeg) &&& (255 : Int32)) <<< ((24 : Int32) &&& 31)))]))
  refine Gd.st (fun _ k => XS.sipush X33.here hx rfl (hb hby at_156) k) ?_
  show Gd p.tables e below _ (T33.setTop (mkF m 159 #[.val (.int p1), .val (.int p2), .val (.long q3), .second, .val (.int (own_i p1)), .val (.ref b1), .val (.ref b19), .val (.ref b29), .unset] [(.int (255 : Int32)), (.int ((own_set4 fx (own_i p1) p2) (((own_i p1) + (1 : Int32))).toNatClampNeg)), (.int ((((own_set4 fx (own_i p1) p2) ((own_i p1)).toNatClampNeg) &&& (255 : Int32)) <<< ((24 : Int32) &&& 31)))]))
  refine Gd.st (fun _ k => XS.iand X33.here hx rfl (hb hby at_159) rfl k) ?_
  show Gd p.tables e below _ (T33.setTop (mkF m 160 #[.val (.int p1), .val (.int p2), .val (.long q3), .second, .val (.int (own_i p1)), .val (.ref b1), .val (.ref b19), .val (.ref b29), .unset] [(.int (((own_set4 fx (own_i p1) p2) (((own_i p1) + (1 : Int32))).toNatClampNeg) &&& (255 : Int32))), (.int ((((own_set4 fx (own_i p1) p2) ((own_i p1)).toNatClampNeg) &&& (255 : Int32)) <<< ((24 : Int32) &&& 31)))]))
  refine Gd.st (fun _ k => XS.bipush X33.here hx rfl (hb hby at_160) k) ?_
  show Gd p.tables e below _ (T33.setTop (mkF m 162 #[.val (.int p1), .val (.int p2), .val (.long q3), .second, .val (.int (own_i p1)), .val (.ref b1), .val (.ref b19), .val (.ref b29), .unset] [(.int (16 : Int32)), (.int (((own_set4 fx (own_i p1) p2) (((own_i p1) + (1 : Int32))).toNatClampNeg) &&& (255 : Int32))), (.int ((((own_set4 fx (own_i p1) p2) ((own_i p1)).toNatClampNeg) &&& (255 : Int32)) <<< ((24 : Int32) &&& 31)))]))
  refine Gd.st (fun _ k => XS.ishl X33.here hx rfl (hb hby at_162) rfl k) ?_
  show Gd p.tables e below _ (T33.setTop (mkF m 163 #[.val (.int p1), .val (.int p2), .val (.long q3), .second, .val (.int (own_i p1)), .val (.ref b1), .val (.ref b19), .val (.ref b29), .unset] [(.int ((((own_set4 fx (own_i p1) p2) (((own_i p1) + (1 : Int32))).toNatClampNeg) &&& (255 : Int32)) <<< ((16 : Int32) &&& 31))), (.int ((((own_set4 fx (own_i p1) p2) ((own_i p1)).toNatClampNeg) &&& (255 : Int32)) <<< ((24 : Int32) &&& 31)))]))
  refine Gd.st (fun _ k => XS.ior X33.here hx rfl (hb hby at_163) rfl k) ?_
  show Gd p.tables e below _ (T33.setTop (mkF m 164 #[.val (.int p1), .val (.int p2), .val (.long q3), .second, .val (.int (own_i p1)), .val (.ref b1), .val (.ref b19), .val (.ref b29), .unset] [(.int (((((own_set4 fx (own_i p1) p2) ((own_i p1)).toNatClampNeg) &&& (255 : Int32)) <<< ((24 : Int32) &&& 31)) ||| ((((own_set4 fx (own_i p1) p2) (((own_i p1) + (1 : Int32))).toNatClampNeg) &&& (255 : Int32)) <<< ((16 : Int32) &&& 31))))]))
  refine Gd.st (fun _ k => XS.aload X33.here hx rfl (hb hby at_164) rfl rfl k) ?_
  show Gd p.tables e below _ (T33.setTop (mkF m 166 #[.val (.int p1), .val (.int p2), .val (.long q3), .second, .val (.int (own_i p1)), .val (.ref b1), .val (.ref b19), .val (.ref b29), .unset] [(.ref b29), (.int (((((own_set4 fx (own_i p1) p2) ((own_i p1)).toNatClampNeg) &&& (255 : Int32)) <<< ((24 : Int32) &&& 31)) ||| ((((own_set4 fx (own_i p1) p2) (((own_i p1) + (1 : Int32))).toNatClampNeg) &&& (255 : Int32)) <<< ((16 : Int32) &&& 31))))]))
  refine Gd.st (fun _ k => XS.iload X33.here hx rfl (hb hby at_166) rfl k) ?_
  show Gd p.tables e below _ (T33.setTop (mkF m 168 #[.val (.int p1), .val (.int p2), .val (.long q3), .second, .val (.int (own_i p1)), .val (.ref b1), .val (.ref b19), .val (.ref b29), .unset] [(.int (own_i p1)), (.ref b29), (.int (((((own_set4 fx (own_i p1) p2) ((own_i p1)).toNatClampNeg) &&& (255 : Int32)) <<< ((24 : Int32) &&& 31)) ||| ((((own_set4 fx (own_i p1) p2) (((own_i p1) + (1 : Int32))).toNatClampNeg) &&& (255 : Int32)) <<< ((16 : Int32) &&& 31))))]))
  refine Gd.st (fun _ k => XS.iconst X33.here hx rfl (hb hby at_168) k) ?_
  show Gd p.tables e below _ (T33.setTop (mkF m 169 #[.val (.int p1), .val (.int p2), .val (.long q3), .second, .val (.int (own_i p1)), .val (.ref b1), .val (.ref b19), .val (.ref b29), .unset] [(.int (2 : Int32)), (.int (own_i p1)), (.ref b29), (.int (((((own_set4 fx (own_i p1) p2) ((own_i p1)).toNatClampNeg) &&& (255 : Int32)) <<< ((24 : Int32) &&& 31)) ||| ((((own_set4 fx (own_i p1) p2) (((own_i p1) + (1 : Int32))).toNatClampNeg) &&& (255 : Int32)) <<< ((16 : Int32) &&& 31))))]))
  refine Gd.st (fun _ k => XS.iadd X33.here hx rfl (hb hby at_169) rfl k) ?_
  show Gd p.tables e below _ (T33.setTop (mkF m 170 #[.val (.int p1), .val (.int p2), .val (.long q3), .second, .val (.int (own_i p1)), .val (.ref b1), .val (.ref b19), .val (.ref b29), .unset] [(.int ((own_i p1) + (2 : Int32))), (.ref b29), (.int (((((own_set4 fx (own_i p1) p2) ((own_i p1)).toNatClampNeg) &&& (255 : Int32)) <<< ((24 : Int32) &&& 31)) ||| ((((own_set4 fx (own_i p1) p2) (((own_i p1) + (1 : Int32))).toNatClampNeg) &&& (255 : Int32)) <<< ((16 : Int32) &&& 31))))]))
  obtain ⟨cl_40, Ar_40, q_40, S_40, N_40, H_40, G_40⟩ := id V33
  have hin_40 : ¬ (((own_i p1) + (2 : Int32)) < 0 ∨ cl_40.slots.size ≤ (((own_i p1) + (2 : Int32))).toNatClampNeg) := inb_of S_40 ((own_ibc _ (own_i5 p1)).2.2.1)
  have hat_40 : cl_40.slots[(((own_i p1) + (2 : Int32))).toNatClampNeg]? = some (.int ((own_set4 fx (own_i p1) p2) (((own_i p1) + (2 : Int32))).toNatClampNeg)) := H_40.at hin_40 (own_get _ _ (own_lt _ ((own_ibc _ (own_i5 p1)).2.2.1)))
  refine Gd.st (fun _ k => X33.baloadBytes hx (j := ((own_i p1) + (2 : Int32))) (v := (.int ((own_set4 fx (own_i p1) p2) (((own_i p1) + (2 : Int32))).toNatClampNeg))) Ar_40.1 (State.isArrayOf_alike hZ.alike Ar_40.2.1) Ar_40.2.2 hin_40 hat_40 (g := (mkF m 170 #[.val (.int p1), .val (.int p2), .val (.long q3), .second, .val (.int (own_i p1)), .val (.ref b1), .val (.ref b19), .val (.ref b29), .unset] [(.int ((own_i p1) + (2 : Int32))), (.ref b29), (.int (((((own_set4 fx (own_i p1) p2) ((own_i p1)).toNatClampNeg) &&& (255 : Int32)) <<< ((24 : Int32) &&& 31)) ||| ((((own_set4 fx (own_i p1) p2) (((own_i p1) + (1 : Int32))).toNatClampNeg) &&& (255 : Int32)) <<< ((16 : Int32) &&& 31))))])) rfl rfl (hb hby at_170) _ k) ?_
  show Gd p.tables e below _ (T33.setTop (mkF m 171 #[.val (.int p1), .val (.int p2), .val (.long q3), .second, .val (.int (own_i p1)), .val (.ref b1), .val (.ref b19), .val (.ref b29), .unset] [(.int ((own_set4 fx (own_i p1) p2) (((own_i p1) + (2 : Int32))).toNatClampNeg)), (.int (((((own_set4 fx (own_i p1) p2) ((own_i p1)).toNatClampNeg) &&& (255 : Int32)) <<< ((24 : Int32) &&& 31)) ||| ((((own_set4 fx (own_i p1) p2) (((own_i p1) + (1 : Int32))).toNatClampNeg) &&& (255 : Int32)) <<< ((16 : Int32) &&& 31))))]))
  refine Gd.st (fun _ k => XS.sipush X33.here hx rfl (hb hby at_171) k) ?_
  show Gd p.tables e below _ (T33.setTop (mkF m 174 #[.val (.int p1), .val (.int p2), .val (.long q3), .second, .val (.int (own_i p1)), .val (.ref b1), .val (.ref b19), .val (.ref b29), .unset] [(.int (255 : Int32)), (.int ((own_set4 fx (own_i p1) p2) (((own_i p1) + (2 : Int32))).toNatClampNeg)), (.int (((((own_set4 fx (own_i p1) p2) ((own_i p1)).toNatClampNeg) &&& (255 : Int32)) <<< ((24 : Int32) &&& 31)) ||| ((((own_set4 fx (own_i p1) p2) (((own_i p1) + (1 : Int32))).toNatClampNeg) &&& (255 : Int32)) <<< ((16 : Int32) &&& 31))))]))
  refine Gd.st (fun _ k => XS.iand X33.here hx rfl (hb hby at_174) rfl k) ?_
  show Gd p.tables e below _ (T33.setTop (mkF m 175 #[.val (.int p1), .val (.int p2), .val (.long q3), .second, .val (.int (own_i p1)), .val (.ref b1), .val (.ref b19), .val (.ref b29), .unset] [(.int (((own_set4 fx (own_i p1) p2) (((own_i p1) + (2 : Int32))).toNatClampNeg) &&& (255 : Int32))), (.int (((((own_set4 fx (own_i p1) p2) ((own_i p1)).toNatClampNeg) &&& (255 : Int32)) <<< ((24 : Int32) &&& 31)) ||| ((((own_set4 fx (own_i p1) p2) (((own_i p1) + (1 : Int32))).toNatClampNeg) &&& (255 : Int32)) <<< ((16 : Int32) &&& 31))))]))
  refine Gd.st (fun _ k => XS.bipush X33.here hx rfl (hb hby at_175) k) ?_
  show Gd p.tables e below _ (T33.setTop (mkF m 177 #[.val (.int p1), .val (.int p2), .val (.long q3), .second, .val (.int (own_i p1)), .val (.ref b1), .val (.ref b19), .val (.ref b29), .unset] [(.int (8 : Int32)), (.int (((own_set4 fx (own_i p1) p2) (((own_i p1) + (2 : Int32))).toNatClampNeg) &&& (255 : Int32))), (.int (((((own_set4 fx (own_i p1) p2) ((own_i p1)).toNatClampNeg) &&& (255 : Int32)) <<< ((24 : Int32) &&& 31)) ||| ((((own_set4 fx (own_i p1) p2) (((own_i p1) + (1 : Int32))).toNatClampNeg) &&& (255 : Int32)) <<< ((16 : Int32) &&& 31))))]))
  refine Gd.st (fun _ k => XS.ishl X33.here hx rfl (hb hby at_177) rfl k) ?_
  show Gd p.tables e below _ (T33.setTop (mkF m 178 #[.val (.int p1), .val (.int p2), .val (.long q3), .second, .val (.int (own_i p1)), .val (.ref b1), .val (.ref b19), .val (.ref b29), .unset] [(.int ((((own_set4 fx (own_i p1) p2) (((own_i p1) + (2 : Int32))).toNatClampNeg) &&& (255 : Int32)) <<< ((8 : Int32) &&& 31))), (.int (((((own_set4 fx (own_i p1) p2) ((own_i p1)).toNatClampNeg) &&& (255 : Int32)) <<< ((24 : Int32) &&& 31)) ||| ((((own_set4 fx (own_i p1) p2) (((own_i p1) + (1 : Int32))).toNatClampNeg) &&& (255 : Int32)) <<< ((16 : Int32) &&& 31))))]))
  refine Gd.st (fun _ k => XS.ior X33.here hx rfl (hb hby at_178) rfl k) ?_
  show Gd p.tables e below _ (T33.setTop (mkF m 179 #[.val (.int p1), .val (.int p2), .val (.long q3), .second, .val (.int (own_i p1)), .val (.ref b1), .val (.ref b19), .val (.ref b29), .unset] [(.int ((((((own_set4 fx (own_i p1) p2) ((own_i p1)).toNatClampNeg) &&& (255 : Int32)) <<< ((24 : Int32) &&& 31)) ||| ((((own_set4 fx (own_i p1) p2) (((own_i p1) + (1 : Int32))).toNatClampNeg) &&& (255 : Int32)) <<< ((16 : Int32) &&& 31))) ||| ((((own_set4 fx (own_i p1) p2) (((own_i p1) + (2 : Int32))).toNatClampNeg) &&& (255 : Int32)) <<< ((8 : Int32) &&& 31))))]))
  refine Gd.st (fun _ k => XS.aload X33.here hx rfl (hb hby at_179) rfl rfl k) ?_
  show Gd p.tables e below _ (T33.setTop (mkF m 181 #[.val (.int p1), .val (.int p2), .val (.long q3), .second, .val (.int (own_i p1)), .val (.ref b1), .val (.ref b19), .val (.ref b29), .unset] [(.ref b29), (.int ((((((own_set4 fx (own_i p1) p2) ((own_i p1)).toNatClampNeg) &&& (255 : Int32)) <<< ((24 : Int32) &&& 31)) ||| ((((own_set4 fx (own_i p1) p2) (((own_i p1) + (1 : Int32))).toNatClampNeg) &&& (255 : Int32)) <<< ((16 : Int32) &&& 31))) ||| ((((own_set4 fx (own_i p1) p2) (((own_i p1) + (2 : Int32))).toNatClampNeg) &&& (255 : Int32)) <<< ((8 : Int32) &&& 31))))]))
  refine Gd.st (fun _ k => XS.iload X33.here hx rfl (hb hby at_181) rfl k) ?_
  show Gd p.tables e below _ (T33.setTop (mkF m 183 #[.val (.int p1), .val (.int p2), .val (.long q3), .second, .val (.int (own_i p1)), .val (.ref b1), .val (.ref b19), .val (.ref b29), .unset] [(.int (own_i p1)), (.ref b29), (.int ((((((own_set4 fx (own_i p1) p2) ((own_i p1)).toNatClampNeg) &&& (255 : Int32)) <<< ((24 : Int32) &&& 31)) ||| ((((own_set4 fx (own_i p1) p2) (((own_i p1) + (1 : Int32))).toNatClampNeg) &&& (255 : Int32)) <<< ((16 : Int32) &&& 31))) ||| ((((own_set4 fx (own_i p1) p2) (((own_i p1) + (2 : Int32))).toNatClampNeg) &&& (255 : Int32)) <<< ((8 : Int32) &&& 31))))]))
  refine Gd.st (fun _ k => XS.iconst X33.here hx rfl (hb hby at_183) k) ?_
  show Gd p.tables e below _ (T33.setTop (mkF m 184 #[.val (.int p1), .val (.int p2), .val (.long q3), .second, .val (.int (own_i p1)), .val (.ref b1), .val (.ref b19), .val (.ref b29), .unset] [(.int (3 : Int32)), (.int (own_i p1)), (.ref b29), (.int ((((((own_set4 fx (own_i p1) p2) ((own_i p1)).toNatClampNeg) &&& (255 : Int32)) <<< ((24 : Int32) &&& 31)) ||| ((((own_set4 fx (own_i p1) p2) (((own_i p1) + (1 : Int32))).toNatClampNeg) &&& (255 : Int32)) <<< ((16 : Int32) &&& 31))) ||| ((((own_set4 fx (own_i p1) p2) (((own_i p1) + (2 : Int32))).toNatClampNeg) &&& (255 : Int32)) <<< ((8 : Int32) &&& 31))))]))
  refine Gd.st (fun _ k => XS.iadd X33.here hx rfl (hb hby at_184) rfl k) ?_
  show Gd p.tables e below _ (T33.setTop (mkF m 185 #[.val (.int p1), .val (.int p2), .val (.long q3), .second, .val (.int (own_i p1)), .val (.ref b1), .val (.ref b19), .val (.ref b29), .unset] [(.int ((own_i p1) + (3 : Int32))), (.ref b29), (.int ((((((own_set4 fx (own_i p1) p2) ((own_i p1)).toNatClampNeg) &&& (255 : Int32)) <<< ((24 : Int32) &&& 31)) ||| ((((own_set4 fx (own_i p1) p2) (((own_i p1) + (1 : Int32))).toNatClampNeg) &&& (255 : Int32)) <<< ((16 : Int32) &&& 31))) ||| ((((own_set4 fx (own_i p1) p2) (((own_i p1) + (2 : Int32))).toNatClampNeg) &&& (255 : Int32)) <<< ((8 : Int32) &&& 31))))]))
  obtain ⟨cl_41, Ar_41, q_41, S_41, N_41, H_41, G_41⟩ := id V33
  have hin_41 : ¬ (((own_i p1) + (3 : Int32)) < 0 ∨ cl_41.slots.size ≤ (((own_i p1) + (3 : Int32))).toNatClampNeg) := inb_of S_41 ((own_ibc _ (own_i5 p1)).2.2.2)
  have hat_41 : cl_41.slots[(((own_i p1) + (3 : Int32))).toNatClampNeg]? = some (.int ((own_set4 fx (own_i p1) p2) (((own_i p1) + (3 : Int32))).toNatClampNeg)) := H_41.at hin_41 (own_get _ _ (own_lt _ ((own_ibc _ (own_i5 p1)).2.2.2)))
  refine Gd.st (fun _ k => X33.baloadBytes hx (j := ((own_i p1) + (3 : Int32))) (v := (.int ((own_set4 fx (own_i p1) p2) (((own_i p1) + (3 : Int32))).toNatClampNeg))) Ar_41.1 (State.isArrayOf_alike hZ.alike Ar_41.2.1) Ar_41.2.2 hin_41 hat_41 (g := (mkF m 185 #[.val (.int p1), .val (.int p2), .val (.long q3), .second, .val (.int (own_i p1)), .val (.ref b1), .val (.ref b19), .val (.ref b29), .unset] [(.int ((own_i p1) + (3 : Int32))), (.ref b29), (.int ((((((own_set4 fx (own_i p1) p2) ((own_i p1)).toNatClampNeg) &&& (255 : Int32)) <<< ((24 : Int32) &&& 31)) ||| ((((own_set4 fx (own_i p1) p2) (((own_i p1) + (1 : Int32))).toNatClampNeg) &&& (255 : Int32)) <<< ((16 : Int32) &&& 31))) ||| ((((own_set4 fx (own_i p1) p2) (((own_i p1) + (2 : Int32))).toNatClampNeg) &&& (255 : Int32)) <<< ((8 : Int32) &&& 31))))])) rfl rfl (hb hby at_185) _ k) ?_
  show Gd p.tables e below _ (T33.setTop (mkF m 186 #[.val (.int p1), .val (.int p2), .val (.long q3), .second, .val (.int (own_i p1)), .val (.ref b1), .val (.ref b19), .val (.ref b29), .unset] [(.int ((own_set4 fx (own_i p1) p2) (((own_i p1) + (3 : Int32))).toNatClampNeg)), (.int ((((((own_set4 fx (own_i p1) p2) ((own_i p1)).toNatClampNeg) &&& (255 : Int32)) <<< ((24 : Int32) &&& 31)) ||| ((((own_set4 fx (own_i p1) p2) (((own_i p1) + (1 : Int32))).toNatClampNeg) &&& (255 : Int32)) <<< ((16 : Int32) &&& 31))) ||| ((((own_set4 fx (own_i p1) p2) (((own_i p1) + (2 : Int32))).toNatClampNeg) &&& (255 : Int32)) <<< ((8 : Int32) &&& 31))))]))
  refine Gd.st (fun _ k => XS.sipush X33.here hx rfl (hb hby at_186) k) ?_
  show Gd p.tables e below _ (T33.setTop (mkF m 189 #[.val (.int p1), .val (.int p2), .val (.long q3), .second, .val (.int (own_i p1)), .val (.ref b1), .val (.ref b19), .val (.ref b29), .unset] [(.int (255 : Int32)), (.int ((own_set4 fx (own_i p1) p2) (((own_i p1) + (3 : Int32))).toNatClampNeg)), (.int ((((((own_set4 fx (own_i p1) p2) ((own_i p1)).toNatClampNeg) &&& (255 : Int32)) <<< ((24 : Int32) &&& 31)) ||| ((((own_set4 fx (own_i p1) p2) (((own_i p1) + (1 : Int32))).toNatClampNeg) &&& (255 : Int32)) <<< ((16 : Int32) &&& 31))) ||| ((((own_set4 fx (own_i p1) p2) (((own_i p1) + (2 : Int32))).toNatClampNeg) &&& (255 : Int32)) <<< ((8 : Int32) &&& 31))))]))
  refine Gd.st (fun _ k => XS.iand X33.here hx rfl (hb hby at_189) rfl k) ?_
  show Gd p.tables e below _ (T33.setTop (mkF m 190 #[.val (.int p1), .val (.int p2), .val (.long q3), .second, .val (.int (own_i p1)), .val (.ref b1), .val (.ref b19), .val (.ref b29), .unset] [(.int (((own_set4 fx (own_i p1) p2) (((own_i p1) + (3 : Int32))).toNatClampNeg) &&& (255 : Int32))), (.int ((((((own_set4 fx (own_i p1) p2) ((own_i p1)).toNatClampNeg) &&& (255 : Int32)) <<< ((24 : Int32) &&& 31)) ||| ((((own_set4 fx (own_i p1) p2) (((own_i p1) + (1 : Int32))).toNatClampNeg) &&& (255 : Int32)) <<< ((16 : Int32) &&& 31))) ||| ((((own_set4 fx (own_i p1) p2) (((own_i p1) + (2 : Int32))).toNatClampNeg) &&& (255 : Int32)) <<< ((8 : Int32) &&& 31))))]))
  refine Gd.st (fun _ k => XS.ior X33.here hx rfl (hb hby at_190) rfl k) ?_
  show Gd p.tables e below _ (T33.setTop (mkF m 191 #[.val (.int p1), .val (.int p2), .val (.long q3), .second, .val (.int (own_i p1)), .val (.ref b1), .val (.ref b19), .val (.ref b29), .unset] [(.int (own_bk (own_set4 fx (own_i p1) p2) (own_i p1)))]))
  refine Gd.st (fun _ k => XS.istore X33.here hx rfl (hb hby at_191) rfl (l' := #[.val (.int p1), .val (.int p2), .val (.long q3), .second, .val (.int (own_i p1)), .val (.ref b1), .val (.ref b19), .val (.ref b29), .val (.int (own_bk (own_set4 fx (own_i p1) p2) (own_i p1)))]) rfl k) ?_
  show Gd p.tables e below _ (T33.setTop (mkF m 193 #[.val (.int p1), .val (.int p2), .val (.long q3), .second, .val (.int (own_i p1)), .val (.ref b1), .val (.ref b19), .val (.ref b29), .val (.int (own_bk (own_set4 fx (own_i p1) p2) (own_i p1)))] []))
  refine Gd.st (fun _ k => XS.iload X33.here hx rfl (hb hby at_193) rfl k) ?_
  show Gd p.tables e below _ (T33.setTop (mkF m 195 #[.val (.int p1), .val (.int p2), .val (.long q3), .second, .val (.int (own_i p1)), .val (.ref b1), .val (.ref b19), .val (.ref b29), .val (.int (own_bk (own_set4 fx (own_i p1) p2) (own_i p1)))] [(.int (own_bk (own_set4 fx (own_i p1) p2) (own_i p1)))]))
  refine Gd.st (fun _ k => XS.iloadN X33.here hx rfl (hb hby at_195) rfl k) ?_
  show Gd p.tables e below _ (T33.setTop (mkF m 196 #[.val (.int p1), .val (.int p2), .val (.long q3), .second, .val (.int (own_i p1)), .val (.ref b1), .val (.ref b19), .val (.ref b29), .val (.int (own_bk (own_set4 fx (own_i p1) p2) (own_i p1)))] [(.int p2), (.int (own_bk (own_set4 fx (own_i p1) p2) (own_i p1)))]))
  refine Gd.st (fun _ k => XS.icmpNo X33.here hx rfl (hb hby at_196) rfl (teq (own_back fx (own_i p1) p2 (own_i5 p1))).2 k) ?_
  show Gd p.tables e below _ (T33.setTop (mkF m 199 #[.val (.int p1), .val (.int p2), .val (.long q3), .second, .val (.int (own_i p1)), .val (.ref b1), .val (.ref b19), .val (.ref b29), .val (.int (own_bk (own_set4 fx (own_i p1) p2) (own_i p1)))] []))
  refine Gd.st (fun _ k => XS.aload X33.here hx rfl (hb hby at_199) rfl rfl k) ?_
  show Gd p.tables e below _ (T33.setTop (mkF m 201 #[.val (.int p1), .val (.int p2), .val (.long q3), .second, .val (.int (own_i p1)), .val (.ref b1), .val (.ref b19), .val (.ref b29), .val (.int (own_bk (own_set4 fx (own_i p1) p2) (own_i p1)))] [(.ref b19)]))
  have q43 := (((F24_1.keep K27 (ninS ne_b19_b21 nin0)).ext E29).keep K33 (ninS ne_b19_b29 nin0))
  have q44 := (q36.keep K33)
  obtain ⟨cq42, kq42, q42a, q42b, q42c⟩ := isOf hZ rfl q44
  obtain ⟨_, _, ⟨T42, L42, k42, n42⟩, -, X42, ⟨Lc42, hQ42, l42, y42, z42⟩, st42⟩ := X33.virtualBack hx (y := (⟨"com/example/geogauge/geogauge/data/ByteBuilder", "length", "()I"⟩ : MethodName)) (z := (⟨"com/example/geogauge/geogauge/data/ByteBuilder", "length", "()I"⟩ : MethodName)) hown (mvT hZ (hw _ (List.mem_of_getElem? (i := 43) rfl))) (mvT hZ (hw _ (List.mem_of_getElem? (i := 44) rfl))) (notFace_of_selects (args := #[]) (mvT hZ (hw _ (List.mem_of_getElem? (i := 46) rfl)))) (mvT hZ (hw _ (List.mem_of_getElem? (i := 46) rfl))) (mvT hZ (hw _ (List.mem_of_getElem? (i := 45) rfl))) (by decide) (backOf (W := 0) (rm8 l Z a0 hw [] b19 (8 : Int32) T33.heap n0 Z37 q43) hZ (hw _ (List.mem_of_getElem? (i := 47) rfl)) (hw _ (List.mem_of_getElem? (i := 4) rfl)) (by decide) (by decide)) q42a q42c (g := (mkF m 201 #[.val (.int p1), .val (.int p2), .val (.long q3), .second, .val (.int (own_i p1)), .val (.ref b1), .val (.ref b19), .val (.ref b29), .val (.int (own_bk (own_set4 fx (own_i p1) p2) (own_i p1)))] [(.ref b19)])) rfl (by rw [hml]; rfl) (Steps.refl _) (argsL := []) (rest := []) (lenOf pd___I_3 rfl) rfl (by show 2 * 0 + _ ≤ _; exact Nat.le_of_eq rfl) (hb hby at_201) (fun _ _ => ⟨rfl, rfl, (by decide : 4 + 0 ≤ _), (by decide : 26 + 0 ≤ _)⟩)
  dsimp only [Pt.U, Pt.locs, Pt.cells, Pt.slots] at X42 l42 y42 z42 st42 hQ42
  simp only [Nat.add_zero, Nat.zero_add, Nat.reduceAdd] at y42 z42
  subst y42 z42
  obtain ⟨rfl, N42q, eh42⟩ := hQ42
  have N42 : Fr n0 L42 := by rw [l42]; exact Fr.app N33 N42q
  clear l42
  refine Gd.st (fun _ k => st42.trans k) ?_
  have e42 : T42.heap = T33.heap := eh42
  show Gd p.tables e below _ (T42.setTop (mkF m 204 #[.val (.int p1), .val (.int p2), .val (.long q3), .second, .val (.int (own_i p1)), .val (.ref b1), .val (.ref b19), .val (.ref b29), .val (.int (own_bk (own_set4 fx (own_i p1) p2) (own_i p1)))] [(.int (8 : Int32))]))
  refine Gd.st (fun _ k => XS.bipush X42.here hx rfl (hb hby at_204) k) ?_
  show Gd p.tables e below _ (T42.setTop (mkF m 206 #[.val (.int p1), .val (.int p2), .val (.long q3), .second, .val (.int (own_i p1)), .val (.ref b1), .val (.ref b19), .val (.ref b29), .val (.int (own_bk (own_set4 fx (own_i p1) p2) (own_i p1)))] [(.int (8 : Int32)), (.int (8 : Int32))]))
  refine Gd.st (fun _ k => XS.icmpNo X42.here hx rfl (hb hby at_206) rfl (teq (by decide)).2 k) ?_
  show Gd p.tables e below _ (T42.setTop (mkF m 209 #[.val (.int p1), .val (.int p2), .val (.long q3), .second, .val (.int (own_i p1)), .val (.ref b1), .val (.ref b19), .val (.ref b29), .val (.int (own_bk (own_set4 fx (own_i p1) p2) (own_i p1)))] []))
  refine Gd.st (fun _ k => XS.aload X42.here hx rfl (hb hby at_209) rfl rfl k) ?_
  show Gd p.tables e below _ (T42.setTop (mkF m 211 #[.val (.int p1), .val (.int p2), .val (.long q3), .second, .val (.int (own_i p1)), .val (.ref b1), .val (.ref b19), .val (.ref b29), .val (.int (own_bk (own_set4 fx (own_i p1) p2) (own_i p1)))] [(.ref b29)]))
  refine Gd.st (fun _ k => XS.aload X42.here hx rfl (hb hby at_211) rfl rfl k) ?_
  show Gd p.tables e below _ (T42.setTop (mkF m 213 #[.val (.int p1), .val (.int p2), .val (.long q3), .second, .val (.int (own_i p1)), .val (.ref b1), .val (.ref b19), .val (.ref b29), .val (.int (own_bk (own_set4 fx (own_i p1) p2) (own_i p1)))] [(.ref b1), (.ref b29)]))
  refine Gd.st (fun _ k => XS.iconst X42.here hx rfl (hb hby at_213) k) ?_
  show Gd p.tables e below _ (T42.setTop (mkF m 214 #[.val (.int p1), .val (.int p2), .val (.long q3), .second, .val (.int (own_i p1)), .val (.ref b1), .val (.ref b19), .val (.ref b29), .val (.int (own_bk (own_set4 fx (own_i p1) p2) (own_i p1)))] [(.int (0 : Int32)), (.ref b1), (.ref b29)]))
  refine Gd.st (fun _ k => XS.iload X42.here hx rfl (hb hby at_214) rfl k) ?_
  show Gd p.tables e below _ (T42.setTop (mkF m 216 #[.val (.int p1), .val (.int p2), .val (.long q3), .second, .val (.int (own_i p1)), .val (.ref b1), .val (.ref b19), .val (.ref b29), .val (.int (own_bk (own_set4 fx (own_i p1) p2) (own_i p1)))] [(.int (own_i p1)), (.int (0 : Int32)), (.ref b1), (.ref b29)]))
  have q46 := ((q30.ext E29).keep K33 (ninS ne_b1_b29 nin0))
  obtain ⟨_, _, ⟨T45, L45, k45, n45⟩, -, X45, ⟨Lc45, hQ45, l45, y45, z45⟩, st45⟩ := Jvm.LawKit.callS X42 hx (y := (⟨"com/example/geogauge/geogauge/data/ByteBuilderSetIntPinLaw", "kept", "([B[BII)Z"⟩ : MethodName)) hown (mvT hZ (hw _ (List.mem_of_getElem? (i := 48) rfl))) (mvT hZ (hw _ (List.mem_of_getElem? (i := 49) rfl))) (mvT hZ (hw _ (List.mem_of_getElem? (i := 50) rfl))) (mvT hZ (hw _ (List.mem_of_getElem? (i := 51) rfl))) (by decide) (backOf (W := 0) (rm9 l Z a0 hw [] b29 b1 (0 : Int32) (own_i p1) k29 (own_set4 fx (own_i p1) p2) k1 fx T33.heap n0 Z37 V33 q46 (by decide)) hZ (hw _ (List.mem_of_getElem? (i := 51) rfl)) (hw _ (List.mem_of_getElem? (i := 50) rfl)) (by decide) (by decide)) (g := (mkF m 216 #[.val (.int p1), .val (.int p2), .val (.long q3), .second, .val (.int (own_i p1)), .val (.ref b1), .val (.ref b19), .val (.ref b29), .val (.int (own_bk (own_set4 fx (own_i p1) p2) (own_i p1)))] [(.int (own_i p1)), (.int (0 : Int32)), (.ref b1), (.ref b29)])) rfl (by rw [hml]; rfl) (argsL := [(.ref b29), (.ref b1), (.int (0 : Int32)), (.int (own_i p1))]) (rest := []) (lenOf pd__ABABII_Z_9 rfl) rfl (by show 2 * 0 + _ ≤ _; exact Nat.le_of_eq rfl) (hb hby at_216) (fun _ _ => ⟨rfl, e42, (by decide : 4 + 0 ≤ _), (by decide : 26 + 0 ≤ _)⟩)
  dsimp only [Pt.U, Pt.locs, Pt.cells, Pt.slots] at X45 l45 y45 z45 st45 hQ45
  simp only [Nat.add_zero, Nat.zero_add, Nat.reduceAdd] at y45 z45
  subst y45 z45
  obtain ⟨rfl, N45q, eh45⟩ := hQ45
  have N45 : Fr n0 L45 := by rw [l45]; exact Fr.app N42 N45q
  clear l45
  refine Gd.st st45 ?_
  have e45 : T45.heap = T33.heap := eh45
  show Gd p.tables e below _ (T45.setTop (mkF m 219 #[.val (.int p1), .val (.int p2), .val (.long q3), .second, .val (.int (own_i p1)), .val (.ref b1), .val (.ref b19), .val (.ref b29), .val (.int (own_bk (own_set4 fx (own_i p1) p2) (own_i p1)))] [(.int (own_kept (own_set4 fx (own_i p1) p2) fx (0 : Int32) (own_i p1)))]))
  refine Gd.st (fun _ k => XS.ifNo X45.here hx rfl (hb hby at_219) rfl ((if0 _ _).trans (feq (own_keeps fx (own_i p1) p2 _ (own_i5 p1) (by decide))).1) k) ?_
  show Gd p.tables e below _ (T45.setTop (mkF m 222 #[.val (.int p1), .val (.int p2), .val (.long q3), .second, .val (.int (own_i p1)), .val (.ref b1), .val (.ref b19), .val (.ref b29), .val (.int (own_bk (own_set4 fx (own_i p1) p2) (own_i p1)))] []))
  refine Gd.st (fun _ k => XS.aload X45.here hx rfl (hb hby at_222) rfl rfl k) ?_
  show Gd p.tables e below _ (T45.setTop (mkF m 224 #[.val (.int p1), .val (.int p2), .val (.long q3), .second, .val (.int (own_i p1)), .val (.ref b1), .val (.ref b19), .val (.ref b29), .val (.int (own_bk (own_set4 fx (own_i p1) p2) (own_i p1)))] [(.ref b29)]))
  refine Gd.st (fun _ k => XS.aload X45.here hx rfl (hb hby at_224) rfl rfl k) ?_
  show Gd p.tables e below _ (T45.setTop (mkF m 226 #[.val (.int p1), .val (.int p2), .val (.long q3), .second, .val (.int (own_i p1)), .val (.ref b1), .val (.ref b19), .val (.ref b29), .val (.int (own_bk (own_set4 fx (own_i p1) p2) (own_i p1)))] [(.ref b1), (.ref b29)]))
  refine Gd.st (fun _ k => XS.iconst X45.here hx rfl (hb hby at_226) k) ?_
  show Gd p.tables e below _ (T45.setTop (mkF m 227 #[.val (.int p1), .val (.int p2), .val (.long q3), .second, .val (.int (own_i p1)), .val (.ref b1), .val (.ref b19), .val (.ref b29), .val (.int (own_bk (own_set4 fx (own_i p1) p2) (own_i p1)))] [(.int (1 : Int32)), (.ref b1), (.ref b29)]))
  refine Gd.st (fun _ k => XS.iload X45.here hx rfl (hb hby at_227) rfl k) ?_
  show Gd p.tables e below _ (T45.setTop (mkF m 229 #[.val (.int p1), .val (.int p2), .val (.long q3), .second, .val (.int (own_i p1)), .val (.ref b1), .val (.ref b19), .val (.ref b29), .val (.int (own_bk (own_set4 fx (own_i p1) p2) (own_i p1)))] [(.int (own_i p1)), (.int (1 : Int32)), (.ref b1), (.ref b29)]))
  obtain ⟨_, _, ⟨T47, L47, k47, n47⟩, -, X47, ⟨Lc47, hQ47, l47, y47, z47⟩, st47⟩ := Jvm.LawKit.callS X45 hx (y := (⟨"com/example/geogauge/geogauge/data/ByteBuilderSetIntPinLaw", "kept", "([B[BII)Z"⟩ : MethodName)) hown (mvT hZ (hw _ (List.mem_of_getElem? (i := 48) rfl))) (mvT hZ (hw _ (List.mem_of_getElem? (i := 49) rfl))) (mvT hZ (hw _ (List.mem_of_getElem? (i := 50) rfl))) (mvT hZ (hw _ (List.mem_of_getElem? (i := 51) rfl))) (by decide) (backOf (W := 0) (rm9 l Z a0 hw [] b29 b1 (1 : Int32) (own_i p1) k29 (own_set4 fx (own_i p1) p2) k1 fx T33.heap n0 Z37 V33 q46 (by decide)) hZ (hw _ (List.mem_of_getElem? (i := 51) rfl)) (hw _ (List.mem_of_getElem? (i := 50) rfl)) (by decide) (by decide)) (g := (mkF m 229 #[.val (.int p1), .val (.int p2), .val (.long q3), .second, .val (.int (own_i p1)), .val (.ref b1), .val (.ref b19), .val (.ref b29), .val (.int (own_bk (own_set4 fx (own_i p1) p2) (own_i p1)))] [(.int (own_i p1)), (.int (1 : Int32)), (.ref b1), (.ref b29)])) rfl (by rw [hml]; rfl) (argsL := [(.ref b29), (.ref b1), (.int (1 : Int32)), (.int (own_i p1))]) (rest := []) (lenOf pd__ABABII_Z_9 rfl) rfl (by show 2 * 0 + _ ≤ _; exact Nat.le_of_eq rfl) (hb hby at_229) (fun _ _ => ⟨rfl, e45, (by decide : 4 + 0 ≤ _), (by decide : 26 + 0 ≤ _)⟩)
  dsimp only [Pt.U, Pt.locs, Pt.cells, Pt.slots] at X47 l47 y47 z47 st47 hQ47
  simp only [Nat.add_zero, Nat.zero_add, Nat.reduceAdd] at y47 z47
  subst y47 z47
  obtain ⟨rfl, N47q, eh47⟩ := hQ47
  have N47 : Fr n0 L47 := by rw [l47]; exact Fr.app N45 N47q
  clear l47
  refine Gd.st st47 ?_
  have e47 : T47.heap = T33.heap := eh47
  show Gd p.tables e below _ (T47.setTop (mkF m 232 #[.val (.int p1), .val (.int p2), .val (.long q3), .second, .val (.int (own_i p1)), .val (.ref b1), .val (.ref b19), .val (.ref b29), .val (.int (own_bk (own_set4 fx (own_i p1) p2) (own_i p1)))] [(.int (own_kept (own_set4 fx (own_i p1) p2) fx (1 : Int32) (own_i p1)))]))
  refine Gd.st (fun _ k => XS.ifNo X47.here hx rfl (hb hby at_232) rfl ((if0 _ _).trans (feq (own_keeps fx (own_i p1) p2 _ (own_i5 p1) (by decide))).1) k) ?_
  show Gd p.tables e below _ (T47.setTop (mkF m 235 #[.val (.int p1), .val (.int p2), .val (.long q3), .second, .val (.int (own_i p1)), .val (.ref b1), .val (.ref b19), .val (.ref b29), .val (.int (own_bk (own_set4 fx (own_i p1) p2) (own_i p1)))] []))
  refine Gd.st (fun _ k => XS.aload X47.here hx rfl (hb hby at_235) rfl rfl k) ?_
  show Gd p.tables e below _ (T47.setTop (mkF m 237 #[.val (.int p1), .val (.int p2), .val (.long q3), .second, .val (.int (own_i p1)), .val (.ref b1), .val (.ref b19), .val (.ref b29), .val (.int (own_bk (own_set4 fx (own_i p1) p2) (own_i p1)))] [(.ref b29)]))
  refine Gd.st (fun _ k => XS.aload X47.here hx rfl (hb hby at_237) rfl rfl k) ?_
  show Gd p.tables e below _ (T47.setTop (mkF m 239 #[.val (.int p1), .val (.int p2), .val (.long q3), .second, .val (.int (own_i p1)), .val (.ref b1), .val (.ref b19), .val (.ref b29), .val (.int (own_bk (own_set4 fx (own_i p1) p2) (own_i p1)))] [(.ref b1), (.ref b29)]))
  refine Gd.st (fun _ k => XS.iconst X47.here hx rfl (hb hby at_239) k) ?_
  show Gd p.tables e below _ (T47.setTop (mkF m 240 #[.val (.int p1), .val (.int p2), .val (.long q3), .second, .val (.int (own_i p1)), .val (.ref b1), .val (.ref b19), .val (.ref b29), .val (.int (own_bk (own_set4 fx (own_i p1) p2) (own_i p1)))] [(.int (2 : Int32)), (.ref b1), (.ref b29)]))
  refine Gd.st (fun _ k => XS.iload X47.here hx rfl (hb hby at_240) rfl k) ?_
  show Gd p.tables e below _ (T47.setTop (mkF m 242 #[.val (.int p1), .val (.int p2), .val (.long q3), .second, .val (.int (own_i p1)), .val (.ref b1), .val (.ref b19), .val (.ref b29), .val (.int (own_bk (own_set4 fx (own_i p1) p2) (own_i p1)))] [(.int (own_i p1)), (.int (2 : Int32)), (.ref b1), (.ref b29)]))
  obtain ⟨_, _, ⟨T48, L48, k48, n48⟩, -, X48, ⟨Lc48, hQ48, l48, y48, z48⟩, st48⟩ := Jvm.LawKit.callS X47 hx (y := (⟨"com/example/geogauge/geogauge/data/ByteBuilderSetIntPinLaw", "kept", "([B[BII)Z"⟩ : MethodName)) hown (mvT hZ (hw _ (List.mem_of_getElem? (i := 48) rfl))) (mvT hZ (hw _ (List.mem_of_getElem? (i := 49) rfl))) (mvT hZ (hw _ (List.mem_of_getElem? (i := 50) rfl))) (mvT hZ (hw _ (List.mem_of_getElem? (i := 51) rfl))) (by decide) (backOf (W := 0) (rm9 l Z a0 hw [] b29 b1 (2 : Int32) (own_i p1) k29 (own_set4 fx (own_i p1) p2) k1 fx T33.heap n0 Z37 V33 q46 (by decide)) hZ (hw _ (List.mem_of_getElem? (i := 51) rfl)) (hw _ (List.mem_of_getElem? (i := 50) rfl)) (by decide) (by decide)) (g := (mkF m 242 #[.val (.int p1), .val (.int p2), .val (.long q3), .second, .val (.int (own_i p1)), .val (.ref b1), .val (.ref b19), .val (.ref b29), .val (.int (own_bk (own_set4 fx (own_i p1) p2) (own_i p1)))] [(.int (own_i p1)), (.int (2 : Int32)), (.ref b1), (.ref b29)])) rfl (by rw [hml]; rfl) (argsL := [(.ref b29), (.ref b1), (.int (2 : Int32)), (.int (own_i p1))]) (rest := []) (lenOf pd__ABABII_Z_9 rfl) rfl (by show 2 * 0 + _ ≤ _; exact Nat.le_of_eq rfl) (hb hby at_242) (fun _ _ => ⟨rfl, e47, (by decide : 4 + 0 ≤ _), (by decide : 26 + 0 ≤ _)⟩)
  dsimp only [Pt.U, Pt.locs, Pt.cells, Pt.slots] at X48 l48 y48 z48 st48 hQ48
  simp only [Nat.add_zero, Nat.zero_add, Nat.reduceAdd] at y48 z48
  subst y48 z48
  obtain ⟨rfl, N48q, eh48⟩ := hQ48
  have N48 : Fr n0 L48 := by rw [l48]; exact Fr.app N47 N48q
  clear l48
  refine Gd.st st48 ?_
  have e48 : T48.heap = T33.heap := eh48
  show Gd p.tables e below _ (T48.setTop (mkF m 245 #[.val (.int p1), .val (.int p2), .val (.long q3), .second, .val (.int (own_i p1)), .val (.ref b1), .val (.ref b19), .val (.ref b29), .val (.int (own_bk (own_set4 fx (own_i p1) p2) (own_i p1)))] [(.int (own_kept (own_set4 fx (own_i p1) p2) fx (2 : Int32) (own_i p1)))]))
  refine Gd.st (fun _ k => XS.ifNo X48.here hx rfl (hb hby at_245) rfl ((if0 _ _).trans (feq (own_keeps fx (own_i p1) p2 _ (own_i5 p1) (by decide))).1) k) ?_
  show Gd p.tables e below _ (T48.setTop (mkF m 248 #[.val (.int p1), .val (.int p2), .val (.long q3), .second, .val (.int (own_i p1)), .val (.ref b1), .val (.ref b19), .val (.ref b29), .val (.int (own_bk (own_set4 fx (own_i p1) p2) (own_i p1)))] []))
  refine Gd.st (fun _ k => XS.aload X48.here hx rfl (hb hby at_248) rfl rfl k) ?_
  show Gd p.tables e below _ (T48.setTop (mkF m 250 #[.val (.int p1), .val (.int p2), .val (.long q3), .second, .val (.int (own_i p1)), .val (.ref b1), .val (.ref b19), .val (.ref b29), .val (.int (own_bk (own_set4 fx (own_i p1) p2) (own_i p1)))] [(.ref b29)]))
  refine Gd.st (fun _ k => XS.aload X48.here hx rfl (hb hby at_250) rfl rfl k) ?_
  show Gd p.tables e below _ (T48.setTop (mkF m 252 #[.val (.int p1), .val (.int p2), .val (.long q3), .second, .val (.int (own_i p1)), .val (.ref b1), .val (.ref b19), .val (.ref b29), .val (.int (own_bk (own_set4 fx (own_i p1) p2) (own_i p1)))] [(.ref b1), (.ref b29)]))
  refine Gd.st (fun _ k => XS.iconst X48.here hx rfl (hb hby at_252) k) ?_
  show Gd p.tables e below _ (T48.setTop (mkF m 253 #[.val (.int p1), .val (.int p2), .val (.long q3), .second, .val (.int (own_i p1)), .val (.ref b1), .val (.ref b19), .val (.ref b29), .val (.int (own_bk (own_set4 fx (own_i p1) p2) (own_i p1)))] [(.int (3 : Int32)), (.ref b1), (.ref b29)]))
  refine Gd.st (fun _ k => XS.iload X48.here hx rfl (hb hby at_253) rfl k) ?_
  show Gd p.tables e below _ (T48.setTop (mkF m 255 #[.val (.int p1), .val (.int p2), .val (.long q3), .second, .val (.int (own_i p1)), .val (.ref b1), .val (.ref b19), .val (.ref b29), .val (.int (own_bk (own_set4 fx (own_i p1) p2) (own_i p1)))] [(.int (own_i p1)), (.int (3 : Int32)), (.ref b1), (.ref b29)]))
  obtain ⟨_, _, ⟨T49, L49, k49, n49⟩, -, X49, ⟨Lc49, hQ49, l49, y49, z49⟩, st49⟩ := Jvm.LawKit.callS X48 hx (y := (⟨"com/example/geogauge/geogauge/data/ByteBuilderSetIntPinLaw", "kept", "([B[BII)Z"⟩ : MethodName)) hown (mvT hZ (hw _ (List.mem_of_getElem? (i := 48) rfl))) (mvT hZ (hw _ (List.mem_of_getElem? (i := 49) rfl))) (mvT hZ (hw _ (List.mem_of_getElem? (i := 50) rfl))) (mvT hZ (hw _ (List.mem_of_getElem? (i := 51) rfl))) (by decide) (backOf (W := 0) (rm9 l Z a0 hw [] b29 b1 (3 : Int32) (own_i p1) k29 (own_set4 fx (own_i p1) p2) k1 fx T33.heap n0 Z37 V33 q46 (by decide)) hZ (hw _ (List.mem_of_getElem? (i := 51) rfl)) (hw _ (List.mem_of_getElem? (i := 50) rfl)) (by decide) (by decide)) (g := (mkF m 255 #[.val (.int p1), .val (.int p2), .val (.long q3), .second, .val (.int (own_i p1)), .val (.ref b1), .val (.ref b19), .val (.ref b29), .val (.int (own_bk (own_set4 fx (own_i p1) p2) (own_i p1)))] [(.int (own_i p1)), (.int (3 : Int32)), (.ref b1), (.ref b29)])) rfl (by rw [hml]; rfl) (argsL := [(.ref b29), (.ref b1), (.int (3 : Int32)), (.int (own_i p1))]) (rest := []) (lenOf pd__ABABII_Z_9 rfl) rfl (by show 2 * 0 + _ ≤ _; exact Nat.le_of_eq rfl) (hb hby at_255) (fun _ _ => ⟨rfl, e48, (by decide : 4 + 0 ≤ _), (by decide : 26 + 0 ≤ _)⟩)
  dsimp only [Pt.U, Pt.locs, Pt.cells, Pt.slots] at X49 l49 y49 z49 st49 hQ49
  simp only [Nat.add_zero, Nat.zero_add, Nat.reduceAdd] at y49 z49
  subst y49 z49
  obtain ⟨rfl, N49q, eh49⟩ := hQ49
  have N49 : Fr n0 L49 := by rw [l49]; exact Fr.app N48 N49q
  clear l49
  refine Gd.st st49 ?_
  have e49 : T49.heap = T33.heap := eh49
  show Gd p.tables e below _ (T49.setTop (mkF m 258 #[.val (.int p1), .val (.int p2), .val (.long q3), .second, .val (.int (own_i p1)), .val (.ref b1), .val (.ref b19), .val (.ref b29), .val (.int (own_bk (own_set4 fx (own_i p1) p2) (own_i p1)))] [(.int (own_kept (own_set4 fx (own_i p1) p2) fx (3 : Int32) (own_i p1)))]))
  refine Gd.st (fun _ k => XS.ifNo X49.here hx rfl (hb hby at_258) rfl ((if0 _ _).trans (feq (own_keeps fx (own_i p1) p2 _ (own_i5 p1) (by decide))).1) k) ?_
  show Gd p.tables e below _ (T49.setTop (mkF m 261 #[.val (.int p1), .val (.int p2), .val (.long q3), .second, .val (.int (own_i p1)), .val (.ref b1), .val (.ref b19), .val (.ref b29), .val (.int (own_bk (own_set4 fx (own_i p1) p2) (own_i p1)))] []))
  refine Gd.st (fun _ k => XS.aload X49.here hx rfl (hb hby at_261) rfl rfl k) ?_
  show Gd p.tables e below _ (T49.setTop (mkF m 263 #[.val (.int p1), .val (.int p2), .val (.long q3), .second, .val (.int (own_i p1)), .val (.ref b1), .val (.ref b19), .val (.ref b29), .val (.int (own_bk (own_set4 fx (own_i p1) p2) (own_i p1)))] [(.ref b29)]))
  refine Gd.st (fun _ k => XS.aload X49.here hx rfl (hb hby at_263) rfl rfl k) ?_
  show Gd p.tables e below _ (T49.setTop (mkF m 265 #[.val (.int p1), .val (.int p2), .val (.long q3), .second, .val (.int (own_i p1)), .val (.ref b1), .val (.ref b19), .val (.ref b29), .val (.int (own_bk (own_set4 fx (own_i p1) p2) (own_i p1)))] [(.ref b1), (.ref b29)]))
  refine Gd.st (fun _ k => XS.iconst X49.here hx rfl (hb hby at_265) k) ?_
  show Gd p.tables e below _ (T49.setTop (mkF m 266 #[.val (.int p1), .val (.int p2), .val (.long q3), .second, .val (.int (own_i p1)), .val (.ref b1), .val (.ref b19), .val (.ref b29), .val (.int (own_bk (own_set4 fx (own_i p1) p2) (own_i p1)))] [(.int (4 : Int32)), (.ref b1), (.ref b29)]))
  refine Gd.st (fun _ k => XS.iload X49.here hx rfl (hb hby at_266) rfl k) ?_
  show Gd p.tables e below _ (T49.setTop (mkF m 268 #[.val (.int p1), .val (.int p2), .val (.long q3), .second, .val (.int (own_i p1)), .val (.ref b1), .val (.ref b19), .val (.ref b29), .val (.int (own_bk (own_set4 fx (own_i p1) p2) (own_i p1)))] [(.int (own_i p1)), (.int (4 : Int32)), (.ref b1), (.ref b29)]))
  obtain ⟨_, _, ⟨T50, L50, k50, n50⟩, -, X50, ⟨Lc50, hQ50, l50, y50, z50⟩, st50⟩ := Jvm.LawKit.callS X49 hx (y := (⟨"com/example/geogauge/geogauge/data/ByteBuilderSetIntPinLaw", "kept", "([B[BII)Z"⟩ : MethodName)) hown (mvT hZ (hw _ (List.mem_of_getElem? (i := 48) rfl))) (mvT hZ (hw _ (List.mem_of_getElem? (i := 49) rfl))) (mvT hZ (hw _ (List.mem_of_getElem? (i := 50) rfl))) (mvT hZ (hw _ (List.mem_of_getElem? (i := 51) rfl))) (by decide) (backOf (W := 0) (rm9 l Z a0 hw [] b29 b1 (4 : Int32) (own_i p1) k29 (own_set4 fx (own_i p1) p2) k1 fx T33.heap n0 Z37 V33 q46 (by decide)) hZ (hw _ (List.mem_of_getElem? (i := 51) rfl)) (hw _ (List.mem_of_getElem? (i := 50) rfl)) (by decide) (by decide)) (g := (mkF m 268 #[.val (.int p1), .val (.int p2), .val (.long q3), .second, .val (.int (own_i p1)), .val (.ref b1), .val (.ref b19), .val (.ref b29), .val (.int (own_bk (own_set4 fx (own_i p1) p2) (own_i p1)))] [(.int (own_i p1)), (.int (4 : Int32)), (.ref b1), (.ref b29)])) rfl (by rw [hml]; rfl) (argsL := [(.ref b29), (.ref b1), (.int (4 : Int32)), (.int (own_i p1))]) (rest := []) (lenOf pd__ABABII_Z_9 rfl) rfl (by show 2 * 0 + _ ≤ _; exact Nat.le_of_eq rfl) (hb hby at_268) (fun _ _ => ⟨rfl, e49, (by decide : 4 + 0 ≤ _), (by decide : 26 + 0 ≤ _)⟩)
  dsimp only [Pt.U, Pt.locs, Pt.cells, Pt.slots] at X50 l50 y50 z50 st50 hQ50
  simp only [Nat.add_zero, Nat.zero_add, Nat.reduceAdd] at y50 z50
  subst y50 z50
  obtain ⟨rfl, N50q, eh50⟩ := hQ50
  have N50 : Fr n0 L50 := by rw [l50]; exact Fr.app N49 N50q
  clear l50
  refine Gd.st st50 ?_
  have e50 : T50.heap = T33.heap := eh50
  show Gd p.tables e below _ (T50.setTop (mkF m 271 #[.val (.int p1), .val (.int p2), .val (.long q3), .second, .val (.int (own_i p1)), .val (.ref b1), .val (.ref b19), .val (.ref b29), .val (.int (own_bk (own_set4 fx (own_i p1) p2) (own_i p1)))] [(.int (own_kept (own_set4 fx (own_i p1) p2) fx (4 : Int32) (own_i p1)))]))
  refine Gd.st (fun _ k => XS.ifNo X50.here hx rfl (hb hby at_271) rfl ((if0 _ _).trans (feq (own_keeps fx (own_i p1) p2 _ (own_i5 p1) (by decide))).1) k) ?_
  show Gd p.tables e below _ (T50.setTop (mkF m 274 #[.val (.int p1), .val (.int p2), .val (.long q3), .second, .val (.int (own_i p1)), .val (.ref b1), .val (.ref b19), .val (.ref b29), .val (.int (own_bk (own_set4 fx (own_i p1) p2) (own_i p1)))] []))
  refine Gd.st (fun _ k => XS.aload X50.here hx rfl (hb hby at_274) rfl rfl k) ?_
  show Gd p.tables e below _ (T50.setTop (mkF m 276 #[.val (.int p1), .val (.int p2), .val (.long q3), .second, .val (.int (own_i p1)), .val (.ref b1), .val (.ref b19), .val (.ref b29), .val (.int (own_bk (own_set4 fx (own_i p1) p2) (own_i p1)))] [(.ref b29)]))
  refine Gd.st (fun _ k => XS.aload X50.here hx rfl (hb hby at_276) rfl rfl k) ?_
  show Gd p.tables e below _ (T50.setTop (mkF m 278 #[.val (.int p1), .val (.int p2), .val (.long q3), .second, .val (.int (own_i p1)), .val (.ref b1), .val (.ref b19), .val (.ref b29), .val (.int (own_bk (own_set4 fx (own_i p1) p2) (own_i p1)))] [(.ref b1), (.ref b29)]))
  refine Gd.st (fun _ k => XS.iconst X50.here hx rfl (hb hby at_278) k) ?_
  show Gd p.tables e below _ (T50.setTop (mkF m 279 #[.val (.int p1), .val (.int p2), .val (.long q3), .second, .val (.int (own_i p1)), .val (.ref b1), .val (.ref b19), .val (.ref b29), .val (.int (own_bk (own_set4 fx (own_i p1) p2) (own_i p1)))] [(.int (5 : Int32)), (.ref b1), (.ref b29)]))
  refine Gd.st (fun _ k => XS.iload X50.here hx rfl (hb hby at_279) rfl k) ?_
  show Gd p.tables e below _ (T50.setTop (mkF m 281 #[.val (.int p1), .val (.int p2), .val (.long q3), .second, .val (.int (own_i p1)), .val (.ref b1), .val (.ref b19), .val (.ref b29), .val (.int (own_bk (own_set4 fx (own_i p1) p2) (own_i p1)))] [(.int (own_i p1)), (.int (5 : Int32)), (.ref b1), (.ref b29)]))
  obtain ⟨_, _, ⟨T51, L51, k51, n51⟩, -, X51, ⟨Lc51, hQ51, l51, y51, z51⟩, st51⟩ := Jvm.LawKit.callS X50 hx (y := (⟨"com/example/geogauge/geogauge/data/ByteBuilderSetIntPinLaw", "kept", "([B[BII)Z"⟩ : MethodName)) hown (mvT hZ (hw _ (List.mem_of_getElem? (i := 48) rfl))) (mvT hZ (hw _ (List.mem_of_getElem? (i := 49) rfl))) (mvT hZ (hw _ (List.mem_of_getElem? (i := 50) rfl))) (mvT hZ (hw _ (List.mem_of_getElem? (i := 51) rfl))) (by decide) (backOf (W := 0) (rm9 l Z a0 hw [] b29 b1 (5 : Int32) (own_i p1) k29 (own_set4 fx (own_i p1) p2) k1 fx T33.heap n0 Z37 V33 q46 (by decide)) hZ (hw _ (List.mem_of_getElem? (i := 51) rfl)) (hw _ (List.mem_of_getElem? (i := 50) rfl)) (by decide) (by decide)) (g := (mkF m 281 #[.val (.int p1), .val (.int p2), .val (.long q3), .second, .val (.int (own_i p1)), .val (.ref b1), .val (.ref b19), .val (.ref b29), .val (.int (own_bk (own_set4 fx (own_i p1) p2) (own_i p1)))] [(.int (own_i p1)), (.int (5 : Int32)), (.ref b1), (.ref b29)])) rfl (by rw [hml]; rfl) (argsL := [(.ref b29), (.ref b1), (.int (5 : Int32)), (.int (own_i p1))]) (rest := []) (lenOf pd__ABABII_Z_9 rfl) rfl (by show 2 * 0 + _ ≤ _; exact Nat.le_of_eq rfl) (hb hby at_281) (fun _ _ => ⟨rfl, e50, (by decide : 4 + 0 ≤ _), (by decide : 26 + 0 ≤ _)⟩)
  dsimp only [Pt.U, Pt.locs, Pt.cells, Pt.slots] at X51 l51 y51 z51 st51 hQ51
  simp only [Nat.add_zero, Nat.zero_add, Nat.reduceAdd] at y51 z51
  subst y51 z51
  obtain ⟨rfl, N51q, eh51⟩ := hQ51
  have N51 : Fr n0 L51 := by rw [l51]; exact Fr.app N50 N51q
  clear l51
  refine Gd.st st51 ?_
  have e51 : T51.heap = T33.heap := eh51
  show Gd p.tables e below _ (T51.setTop (mkF m 284 #[.val (.int p1), .val (.int p2), .val (.long q3), .second, .val (.int (own_i p1)), .val (.ref b1), .val (.ref b19), .val (.ref b29), .val (.int (own_bk (own_set4 fx (own_i p1) p2) (own_i p1)))] [(.int (own_kept (own_set4 fx (own_i p1) p2) fx (5 : Int32) (own_i p1)))]))
  refine Gd.st (fun _ k => XS.ifNo X51.here hx rfl (hb hby at_284) rfl ((if0 _ _).trans (feq (own_keeps fx (own_i p1) p2 _ (own_i5 p1) (by decide))).1) k) ?_
  show Gd p.tables e below _ (T51.setTop (mkF m 287 #[.val (.int p1), .val (.int p2), .val (.long q3), .second, .val (.int (own_i p1)), .val (.ref b1), .val (.ref b19), .val (.ref b29), .val (.int (own_bk (own_set4 fx (own_i p1) p2) (own_i p1)))] []))
  refine Gd.st (fun _ k => XS.aload X51.here hx rfl (hb hby at_287) rfl rfl k) ?_
  show Gd p.tables e below _ (T51.setTop (mkF m 289 #[.val (.int p1), .val (.int p2), .val (.long q3), .second, .val (.int (own_i p1)), .val (.ref b1), .val (.ref b19), .val (.ref b29), .val (.int (own_bk (own_set4 fx (own_i p1) p2) (own_i p1)))] [(.ref b29)]))
  refine Gd.st (fun _ k => XS.aload X51.here hx rfl (hb hby at_289) rfl rfl k) ?_
  show Gd p.tables e below _ (T51.setTop (mkF m 291 #[.val (.int p1), .val (.int p2), .val (.long q3), .second, .val (.int (own_i p1)), .val (.ref b1), .val (.ref b19), .val (.ref b29), .val (.int (own_bk (own_set4 fx (own_i p1) p2) (own_i p1)))] [(.ref b1), (.ref b29)]))
  refine Gd.st (fun _ k => XS.bipush X51.here hx rfl (hb hby at_291) k) ?_
  show Gd p.tables e below _ (T51.setTop (mkF m 293 #[.val (.int p1), .val (.int p2), .val (.long q3), .second, .val (.int (own_i p1)), .val (.ref b1), .val (.ref b19), .val (.ref b29), .val (.int (own_bk (own_set4 fx (own_i p1) p2) (own_i p1)))] [(.int (6 : Int32)), (.ref b1), (.ref b29)]))
  refine Gd.st (fun _ k => XS.iload X51.here hx rfl (hb hby at_293) rfl k) ?_
  show Gd p.tables e below _ (T51.setTop (mkF m 295 #[.val (.int p1), .val (.int p2), .val (.long q3), .second, .val (.int (own_i p1)), .val (.ref b1), .val (.ref b19), .val (.ref b29), .val (.int (own_bk (own_set4 fx (own_i p1) p2) (own_i p1)))] [(.int (own_i p1)), (.int (6 : Int32)), (.ref b1), (.ref b29)]))
  obtain ⟨_, _, ⟨T52, L52, k52, n52⟩, -, X52, ⟨Lc52, hQ52, l52, y52, z52⟩, st52⟩ := Jvm.LawKit.callS X51 hx (y := (⟨"com/example/geogauge/geogauge/data/ByteBuilderSetIntPinLaw", "kept", "([B[BII)Z"⟩ : MethodName)) hown (mvT hZ (hw _ (List.mem_of_getElem? (i := 48) rfl))) (mvT hZ (hw _ (List.mem_of_getElem? (i := 49) rfl))) (mvT hZ (hw _ (List.mem_of_getElem? (i := 50) rfl))) (mvT hZ (hw _ (List.mem_of_getElem? (i := 51) rfl))) (by decide) (backOf (W := 0) (rm9 l Z a0 hw [] b29 b1 (6 : Int32) (own_i p1) k29 (own_set4 fx (own_i p1) p2) k1 fx T33.heap n0 Z37 V33 q46 (by decide)) hZ (hw _ (List.mem_of_getElem? (i := 51) rfl)) (hw _ (List.mem_of_getElem? (i := 50) rfl)) (by decide) (by decide)) (g := (mkF m 295 #[.val (.int p1), .val (.int p2), .val (.long q3), .second, .val (.int (own_i p1)), .val (.ref b1), .val (.ref b19), .val (.ref b29), .val (.int (own_bk (own_set4 fx (own_i p1) p2) (own_i p1)))] [(.int (own_i p1)), (.int (6 : Int32)), (.ref b1), (.ref b29)])) rfl (by rw [hml]; rfl) (argsL := [(.ref b29), (.ref b1), (.int (6 : Int32)), (.int (own_i p1))]) (rest := []) (lenOf pd__ABABII_Z_9 rfl) rfl (by show 2 * 0 + _ ≤ _; exact Nat.le_of_eq rfl) (hb hby at_295) (fun _ _ => ⟨rfl, e51, (by decide : 4 + 0 ≤ _), (by decide : 26 + 0 ≤ _)⟩)
  dsimp only [Pt.U, Pt.locs, Pt.cells, Pt.slots] at X52 l52 y52 z52 st52 hQ52
  simp only [Nat.add_zero, Nat.zero_add, Nat.reduceAdd] at y52 z52
  subst y52 z52
  obtain ⟨rfl, N52q, eh52⟩ := hQ52
  have N52 : Fr n0 L52 := by rw [l52]; exact Fr.app N51 N52q
  clear l52
  refine Gd.st st52 ?_
  have e52 : T52.heap = T33.heap := eh52
  show Gd p.tables e below _ (T52.setTop (mkF m 298 #[.val (.int p1), .val (.int p2), .val (.long q3), .second, .val (.int (own_i p1)), .val (.ref b1), .val (.ref b19), .val (.ref b29), .val (.int (own_bk (own_set4 fx (own_i p1) p2) (own_i p1)))] [(.int (own_kept (own_set4 fx (own_i p1) p2) fx (6 : Int32) (own_i p1)))]))
  refine Gd.st (fun _ k => XS.ifNo X52.here hx rfl (hb hby at_298) rfl ((if0 _ _).trans (feq (own_keeps fx (own_i p1) p2 _ (own_i5 p1) (by decide))).1) k) ?_
  show Gd p.tables e below _ (T52.setTop (mkF m 301 #[.val (.int p1), .val (.int p2), .val (.long q3), .second, .val (.int (own_i p1)), .val (.ref b1), .val (.ref b19), .val (.ref b29), .val (.int (own_bk (own_set4 fx (own_i p1) p2) (own_i p1)))] []))
  refine Gd.st (fun _ k => XS.aload X52.here hx rfl (hb hby at_301) rfl rfl k) ?_
  show Gd p.tables e below _ (T52.setTop (mkF m 303 #[.val (.int p1), .val (.int p2), .val (.long q3), .second, .val (.int (own_i p1)), .val (.ref b1), .val (.ref b19), .val (.ref b29), .val (.int (own_bk (own_set4 fx (own_i p1) p2) (own_i p1)))] [(.ref b29)]))
  refine Gd.st (fun _ k => XS.aload X52.here hx rfl (hb hby at_303) rfl rfl k) ?_
  show Gd p.tables e below _ (T52.setTop (mkF m 305 #[.val (.int p1), .val (.int p2), .val (.long q3), .second, .val (.int (own_i p1)), .val (.ref b1), .val (.ref b19), .val (.ref b29), .val (.int (own_bk (own_set4 fx (own_i p1) p2) (own_i p1)))] [(.ref b1), (.ref b29)]))
  refine Gd.st (fun _ k => XS.bipush X52.here hx rfl (hb hby at_305) k) ?_
  show Gd p.tables e below _ (T52.setTop (mkF m 307 #[.val (.int p1), .val (.int p2), .val (.long q3), .second, .val (.int (own_i p1)), .val (.ref b1), .val (.ref b19), .val (.ref b29), .val (.int (own_bk (own_set4 fx (own_i p1) p2) (own_i p1)))] [(.int (7 : Int32)), (.ref b1), (.ref b29)]))
  refine Gd.st (fun _ k => XS.iload X52.here hx rfl (hb hby at_307) rfl k) ?_
  show Gd p.tables e below _ (T52.setTop (mkF m 309 #[.val (.int p1), .val (.int p2), .val (.long q3), .second, .val (.int (own_i p1)), .val (.ref b1), .val (.ref b19), .val (.ref b29), .val (.int (own_bk (own_set4 fx (own_i p1) p2) (own_i p1)))] [(.int (own_i p1)), (.int (7 : Int32)), (.ref b1), (.ref b29)]))
  obtain ⟨_, _, ⟨T53, L53, k53, n53⟩, -, X53, ⟨Lc53, hQ53, l53, y53, z53⟩, st53⟩ := Jvm.LawKit.callS X52 hx (y := (⟨"com/example/geogauge/geogauge/data/ByteBuilderSetIntPinLaw", "kept", "([B[BII)Z"⟩ : MethodName)) hown (mvT hZ (hw _ (List.mem_of_getElem? (i := 48) rfl))) (mvT hZ (hw _ (List.mem_of_getElem? (i := 49) rfl))) (mvT hZ (hw _ (List.mem_of_getElem? (i := 50) rfl))) (mvT hZ (hw _ (List.mem_of_getElem? (i := 51) rfl))) (by decide) (backOf (W := 0) (rm9 l Z a0 hw [] b29 b1 (7 : Int32) (own_i p1) k29 (own_set4 fx (own_i p1) p2) k1 fx T33.heap n0 Z37 V33 q46 (by decide)) hZ (hw _ (List.mem_of_getElem? (i := 51) rfl)) (hw _ (List.mem_of_getElem? (i := 50) rfl)) (by decide) (by decide)) (g := (mkF m 309 #[.val (.int p1), .val (.int p2), .val (.long q3), .second, .val (.int (own_i p1)), .val (.ref b1), .val (.ref b19), .val (.ref b29), .val (.int (own_bk (own_set4 fx (own_i p1) p2) (own_i p1)))] [(.int (own_i p1)), (.int (7 : Int32)), (.ref b1), (.ref b29)])) rfl (by rw [hml]; rfl) (argsL := [(.ref b29), (.ref b1), (.int (7 : Int32)), (.int (own_i p1))]) (rest := []) (lenOf pd__ABABII_Z_9 rfl) rfl (by show 2 * 0 + _ ≤ _; exact Nat.le_of_eq rfl) (hb hby at_309) (fun _ _ => ⟨rfl, e52, (by decide : 4 + 0 ≤ _), (by decide : 26 + 0 ≤ _)⟩)
  dsimp only [Pt.U, Pt.locs, Pt.cells, Pt.slots] at X53 l53 y53 z53 st53 hQ53
  simp only [Nat.add_zero, Nat.zero_add, Nat.reduceAdd] at y53 z53
  subst y53 z53
  obtain ⟨rfl, N53q, eh53⟩ := hQ53
  have N53 : Fr n0 L53 := by rw [l53]; exact Fr.app N52 N53q
  clear l53
  refine Gd.st st53 ?_
  have e53 : T53.heap = T33.heap := eh53
  show Gd p.tables e below _ (T53.setTop (mkF m 312 #[.val (.int p1), .val (.int p2), .val (.long q3), .second, .val (.int (own_i p1)), .val (.ref b1), .val (.ref b19), .val (.ref b29), .val (.int (own_bk (own_set4 fx (own_i p1) p2) (own_i p1)))] [(.int (own_kept (own_set4 fx (own_i p1) p2) fx (7 : Int32) (own_i p1)))]))
  refine Gd.st (fun _ k => XS.ifNo X53.here hx rfl (hb hby at_312) rfl ((if0 _ _).trans (feq (own_keeps fx (own_i p1) p2 _ (own_i5 p1) (by decide))).1) k) ?_
  show Gd p.tables e below _ (T53.setTop (mkF m 315 #[.val (.int p1), .val (.int p2), .val (.long q3), .second, .val (.int (own_i p1)), .val (.ref b1), .val (.ref b19), .val (.ref b29), .val (.int (own_bk (own_set4 fx (own_i p1) p2) (own_i p1)))] []))
  refine Gd.st (fun _ k => XS.iconst X53.here hx rfl (hb hby at_315) k) ?_
  show Gd p.tables e below _ (T53.setTop (mkF m 316 #[.val (.int p1), .val (.int p2), .val (.long q3), .second, .val (.int (own_i p1)), .val (.ref b1), .val (.ref b19), .val (.ref b29), .val (.int (own_bk (own_set4 fx (own_i p1) p2) (own_i p1)))] [(.int (1 : Int32))]))
  refine Gd.st (fun _ k => XS.goto X53.here hx rfl (pc0 := 316) (pc' := 320) rfl (hb hby at_316) (by decide) (by decide) k) ?_
  show Gd p.tables e below _ (T53.setTop (mkF m 320 #[.val (.int p1), .val (.int p2), .val (.long q3), .second, .val (.int (own_i p1)), .val (.ref b1), .val (.ref b19), .val (.ref b29), .val (.int (own_bk (own_set4 fx (own_i p1) p2) (own_i p1)))] [(.int (1 : Int32))]))
  obtain ⟨fs, hr, hrun, hended, hW, hsame⟩ := X53.leave (v := some (.int (1 : Int32))) (fun h => by rw [Bd.returns] at h; cases h) Bd.notSynchronized
  refine Gd.mk (o := .returned (some (.int (1 : Int32)))) (retN X53 hx (t := .boolean) Bd.returns (by simp) (hb hby at_320) hr) ⟨hrun, hended, _, _, rfl, ?_, ⟨_, rfl⟩, hW, hsame.mono (by decide) (by decide)⟩
  show Q0 Z p1 p2 q3 h0 n0 _ T53.heap _
  rw [e53]
  exact ⟨rfl, N53⟩
set_option maxRecDepth 65536 in
set_option maxHeartbeats 40000000 in
theorem comes_1 {Post : Tables → Env → Array Value → State → Outcome → State → Prop} (hpost : ∀ tb e args s v u, (limb_1_1.after args s (.returned v) u = true ∧ limb_1_2.after args s (.returned v) u = true ∧ True) → FrameEnd s (.returned v) u (Jvm.fieldLocs frame_1_writes args s ++ Jvm.arrayLocs frame_1_arrays args s ++ Jvm.staticLocs frame_1_statics s) 16 128 → Post tb e args s (.returned v) u) :
    ArmFor flags0 classFile x code maxLocals ret World_1 tables_1 room_1 Calls_1 rest_1 Pre_1 Post := by
  intro l hfl _ _ p e ha hc hk s m args below hf hA hF happ hP
  obtain ⟨hcalls, hrest, hpre⟩ := hP
  obtain ⟨-, -, -, hnamed, -, -, -, hat⟩ := (Spec.applies_iff hf).mp happ
  obtain ⟨hg, hn⟩ := and_e (Cond.before_iff.mp (show (Jvm.Cond.and given_1 narrow_1).before args s = true from hpre))
  obtain ⟨g1, g2⟩ := and_e hg
  obtain ⟨g3, g4⟩ := and_e g2
  obtain ⟨g5, g6⟩ := and_e g4
  obtain ⟨w0, w1, w2, rfl⟩ : ∃ w0 w1 w2 : Value, args = #[w0, w1, w2] := by
    have hs : args.size = 3 := by simpa [Cond.value, given_1] using g1
    obtain ⟨L⟩ := args
    match L, hs with
    | [w0, w1, w2], _ => exact ⟨w0, w1, w2, rfl⟩
  have hw := fun d (hd : d ∈ tables_1) => atoms_spec (ws := Jvm.Cond.code x code maxLocals ret :: tables_1) hat d (List.mem_cons_of_mem _ hd)
  obtain ⟨i0, ei0⟩ := is_v g3
  obtain rfl : w0 = (.int i0) := Option.some.inj ei0
  obtain ⟨i1, ei1⟩ := is_v g5
  obtain rfl : w1 = (.int i1) := Option.some.inj ei1
  obtain ⟨i2, ei2⟩ := isL_v g6
  obtain rfl : w2 = (.long i2) := Option.some.inj ei2
  obtain ⟨n, o, h1, h2, h3, _, L, rfl, ⟨rfl, N⟩, hq⟩ := rm0 l s _ hw tables_1 i0 i1 i2 s.heap s.heap.size (Nat.le_refl _) p e ha hc hk s m _ below hf ((Spec.applies_iff_loose hf).mp happ).1 ⟨rfl, State.Warmed39.refl s, rfl⟩ trivial
  refine ⟨n, _, h1, h2, h3, hpost _ _ _ _ _ _ ⟨Cond.after_iff.mpr rfl, Cond.after_iff.mpr (eq_i res_at (Term.int_eval (1)) rfl), trivial⟩ ⟨hq.1, hq.2.1, (hq.2.2.sift fun y hy => Or.inr (N y hy)).mono (by decide) (by decide)⟩⟩
theorem main_1_1 : Claimed_1_1 := comes_1 fun _ _ _ _ _ _ h hF => ⟨h.1, hF⟩
theorem main_1_2 : Claimed_1_2 := comes_1 fun _ _ _ _ _ _ h hF => ⟨h.2.1, hF⟩
end Jvm.Pilot.@@N@@
namespace Jvm.Pilot.@@N@@
open Jvm Jvm.ClassFile Sem Op Lib Jvm.Free Jvm.Stand Jvm.Pilot.@@N@@.Jvm.D
/-! MADE BY PROGRAM (witnessworld.py) out of the Statement's table words and the real class files: 10 classes; the members and pool entries that the words name. The judged class is class 1, her method 1. -/
namespace start1
open Jvm.ClassFile
def u (s : String) : CpInfo := .utf8 (stringToUtf16 s)
/-- a pool by its gaps: so many unusable entries, then the entry; so many at the end -/
def gap : Nat → List CpInfo → List CpInfo
  | 0, r => r
  | n + 1, r => .unusable :: gap n r
def poolList (es : List (Nat × CpInfo)) (last : Nat) : List CpInfo := es.foldr (fun e r => gap e.1 (e.2 :: r)) (gap last [])
def pool (es : List (Nat × CpInfo)) (last : Nat) : Array CpInfo := ⟨poolList es last⟩
def fileOf (pool : Array CpInfo) (this : Nat) (attrs : Array Attribute := #[]) (ms : Array MethodInfo := #[]) (fl : Nat := 33) (sup : Nat := 0) (ifs : Array Nat := #[]) (fds : Array FieldInfo := #[]) : ClassFile where
  minorVersion := 0
  majorVersion := 65
  constantPool := pool
  accessFlags := fl
  thisClass := this
  superClass := sup
  interfaces := ifs
  fields := fds
  methods := ms
  attributes := attrs
def plain (name : String) (sup : Option ClassId) : Class where
  name := name
  kind := .ordinary
  loader := none
  accessFlags := 33
  super := sup
  interfaces := #[]
  cf := none
  fields := #[]
  methods := #[]
  instanceTypes := #[]
  staticTypes := #[]
  resolved := #[]
  callSites := []
  init := .initialized
  statics := none
  mirror := none

def pool0 : Array CpInfo := pool [(5, u "<init>"), (0, u "()V"), (1, .class_ 10), (1, u "java/lang/Object")] 113

def k0c0 : Code := { maxStack := 0, maxLocals := 1, code := object_method_1_code, exceptionTable := #[], attributes := #[] }
def k0m0 : Method := { name := "<init>", desc := "()V", sig := { parameters := [], returnType := none }, accessFlags := 1, code := some k0c0 }
/-- java/lang/Object -/
def k0 : Class := { plain "java/lang/Object" none with
  accessFlags := 33
  interfaces := #[]
  cf := some (fileOf pool0 8 #[] #[{ accessFlags := 1, nameIndex := 5, descriptorIndex := 6, attributes := #[] }] 33 0 #[] #[])
  fields := #[]
  methods := #[k0m0]
  instanceTypes := #[]
  staticTypes := #[]
  resolved := Array.replicate 124 none
  statics := none }

def pool1 : Array CpInfo := pool [(2, .class_ 4), (1, u "java/lang/Object"), (0, u "<init>"), (0, u "()V"), (0, .integer 2147483647), (0, .class_ 9), (0, u "com/example/geogauge/geogauge/data/ByteBuilder"), (0, .methodref 8 11), (0, .nameAndType 5 12), (0, u "(I)V"), (0, .methodref 8 14), (0, .nameAndType 15 16), (0, u "append"), (0, u "([B)Lcom/example/geogauge/geogauge/data/ByteBuilder;"), (0, .methodref 8 18), (0, .nameAndType 19 20), (0, u "setInt"), (0, u "(II)V"), (0, .methodref 8 22), (0, .nameAndType 23 24), (0, u "copyTo"), (0, u "(I[BII)V"), (0, .methodref 8 26), (0, .nameAndType 27 28), (0, u "length"), (0, u "()I"), (0, .methodref 30 31), (0, .class_ 32), (0, .nameAndType 33 34), (0, u "com/example/geogauge/geogauge/data/ByteBuilderSetIntPinLaw"), (0, u "kept"), (0, u "([B[BII)Z"), (2, u "law"), (0, u "(IIJ)Z")] 5

def k1m0 : Method := { name := "<init>", desc := "()V", sig := { parameters := [], returnType := none }, accessFlags := 1, code := none }
def k1c1 : Code := { maxStack := 5, maxLocals := 9, code := code, exceptionTable := #[], attributes := #[] }
def k1m1 : Method := { name := "law", desc := "(IIJ)Z", sig := { parameters := [.int, .int, .long], returnType := some .boolean }, accessFlags := 9, code := some k1c1 }
def k1c2 : Code := { maxStack := 3, maxLocals := 4, code := method_3_code, exceptionTable := #[], attributes := #[] }
def k1m2 : Method := { name := "kept", desc := "([B[BII)Z", sig := { parameters := [(.array .byte), (.array .byte), .int, .int], returnType := some .boolean }, accessFlags := 10, code := some k1c2 }
/-- com/example/geogauge/geogauge/data/ByteBuilderSetIntPinLaw -/
def k1 : Class := { plain "com/example/geogauge/geogauge/data/ByteBuilderSetIntPinLaw" (some 0) with
  accessFlags := 49
  interfaces := #[]
  cf := some (fileOf pool1 30 #[] #[{ accessFlags := 1, nameIndex := 5, descriptorIndex := 6, attributes := #[] }, { accessFlags := 9, nameIndex := 37, descriptorIndex := 38, attributes := #[] }, { accessFlags := 10, nameIndex := 33, descriptorIndex := 34, attributes := #[] }] 49 2 #[] #[])
  fields := #[]
  methods := #[k1m0, k1m1, k1m2]
  instanceTypes := #[]
  staticTypes := #[]
  resolved := Array.replicate 44 none
  statics := none }

def pool2 : Array CpInfo := pool [(2, .class_ 4), (1, u "com/example/geogauge/geogauge/data/ByteBuilder"), (0, u "<init>"), (0, u "(I)V"), (0, .methodref 8 9), (0, .class_ 10), (0, .nameAndType 5 11), (0, u "java/lang/Object"), (0, u "()V"), (0, .fieldref 2 13), (0, .nameAndType 14 15), (0, u "bytes"), (0, u "[B"), (0, .methodref 2 17), (0, .nameAndType 18 6), (0, u "ensureRoom"), (0, .fieldref 2 20), (0, .nameAndType 21 22), (0, u "length"), (0, u "I"), (8, u "append"), (6, u "()I"), (23, u "([B)Lcom/example/geogauge/geogauge/data/ByteBuilder;"), (0, .methodref 2 64), (0, .nameAndType 31 65), (0, u "([BII)Lcom/example/geogauge/geogauge/data/ByteBuilder;"), (0, .methodref 67 68), (0, .class_ 69), (0, .nameAndType 70 71), (0, u "java/lang/System"), (0, u "arraycopy"), (0, u "(Ljava/lang/Object;ILjava/lang/Object;II)V"), (26, u "setInt"), (0, u "(II)V"), (38, u "copyTo"), (0, u "(I[BII)V")] 20

def k2m0 : Method := { name := "<init>", desc := "()V", sig := { parameters := [], returnType := none }, accessFlags := 0, code := none }
def k2c1 : Code := { maxStack := 2, maxLocals := 2, code := prog_35_method_2_code, exceptionTable := #[], attributes := #[] }
def k2m1 : Method := { name := "<init>", desc := "(I)V", sig := { parameters := [.int], returnType := none }, accessFlags := 1, code := some k2c1 }
def k2c2 : Code := { maxStack := 4, maxLocals := 2, code := prog_35_method_7_code, exceptionTable := #[], attributes := #[] }
def k2m2 : Method := { name := "append", desc := "([B)Lcom/example/geogauge/geogauge/data/ByteBuilder;", sig := { parameters := [(.array .byte)], returnType := some (.object "com/example/geogauge/geogauge/data/ByteBuilder") }, accessFlags := 1, code := some k2c2 }
def k2c3 : Code := { maxStack := 5, maxLocals := 4, code := prog_35_method_8_code, exceptionTable := #[], attributes := #[] }
def k2m3 : Method := { name := "append", desc := "([BII)Lcom/example/geogauge/geogauge/data/ByteBuilder;", sig := { parameters := [(.array .byte), .int, .int], returnType := some (.object "com/example/geogauge/geogauge/data/ByteBuilder") }, accessFlags := 1, code := some k2c3 }
def k2c4 : Code := { maxStack := 4, maxLocals := 3, code := prog_35_method_14_code, exceptionTable := #[], attributes := #[] }
def k2m4 : Method := { name := "setInt", desc := "(II)V", sig := { parameters := [.int, .int], returnType := none }, accessFlags := 0, code := some k2c4 }
def k2c5 : Code := { maxStack := 1, maxLocals := 1, code := prog_35_method_15_code, exceptionTable := #[], attributes := #[] }
def k2m5 : Method := { name := "length", desc := "()I", sig := { parameters := [], returnType := some .int }, accessFlags := 1, code := some k2c5 }
def k2c6 : Code := { maxStack := 5, maxLocals := 5, code := prog_35_method_17_code, exceptionTable := #[], attributes := #[] }
def k2m6 : Method := { name := "copyTo", desc := "(I[BII)V", sig := { parameters := [.int, (.array .byte), .int, .int], returnType := none }, accessFlags := 1, code := some k2c6 }
def k2c7 : Code := { maxStack := 5, maxLocals := 2, code := prog_35_method_23_code, exceptionTable := #[], attributes := #[] }
def k2m7 : Method := { name := "ensureRoom", desc := "(I)V", sig := { parameters := [.int], returnType := none }, accessFlags := 2, code := some k2c7 }
/-- com/example/geogauge/geogauge/data/ByteBuilder -/
def k2 : Class := { plain "com/example/geogauge/geogauge/data/ByteBuilder" (some 0) with
  accessFlags := 49
  interfaces := #[]
  cf := some (fileOf pool2 2 #[] #[{ accessFlags := 0, nameIndex := 5, descriptorIndex := 11, attributes := #[] }, { accessFlags := 1, nameIndex := 5, descriptorIndex := 6, attributes := #[] }, { accessFlags := 1, nameIndex := 31, descriptorIndex := 62, attributes := #[] }, { accessFlags := 1, nameIndex := 31, descriptorIndex := 65, attributes := #[] }, { accessFlags := 0, nameIndex := 98, descriptorIndex := 99, attributes := #[] }, { accessFlags := 1, nameIndex := 21, descriptorIndex := 38, attributes := #[] }, { accessFlags := 1, nameIndex := 138, descriptorIndex := 139, attributes := #[] }, { accessFlags := 2, nameIndex := 18, descriptorIndex := 6, attributes := #[] }] 49 8 #[] #[{ accessFlags := 2, nameIndex := 14, descriptorIndex := 15, attributes := #[] }, { accessFlags := 2, nameIndex := 21, descriptorIndex := 22, attributes := #[] }])
  fields := #[{ name := "bytes", type := (.array .byte), accessFlags := 2, slot := 0, constantValue := 0 }, { name := "length", type := .int, accessFlags := 2, slot := 1, constantValue := 0 }]
  methods := #[k2m0, k2m1, k2m2, k2m3, k2m4, k2m5, k2m6, k2m7]
  instanceTypes := #[(.array .byte), .int]
  staticTypes := #[]
  resolved := Array.replicate 160 none
  statics := none }

def pool3 : Array CpInfo := pool [(2, .class_ 4), (1, u "java/lang/Object"), (0, u "<init>"), (0, u "()V"), (1, .class_ 10), (1, u "java/lang/System"), (0, u "allowSecurityManager"), (0, u "I"), (16, u "cons"), (0, u "Ljava/io/Console;"), (77, .class_ 110), (1, u "java/lang/System$CallersHolder"), (43, u "initialErrStream"), (0, u "Ljava/io/PrintStream;"), (19, u "security"), (0, u "Ljava/lang/SecurityManager;"), (31, .class_ 209), (0, u "java/lang/System$1"), (7, u "props"), (0, u "Ljava/util/Properties;"), (2, u "lineSeparator"), (0, u "Ljava/lang/String;"), (96, .class_ 321), (1, u "java/lang/System$LoggerFinder"), (5, .class_ 328), (0, u "java/lang/System$Logger"), (67, u "err"), (2, u "out"), (91, u "notSupportedJnuEncoding"), (15, u "in"), (17, u "initialIn"), (0, u "Ljava/io/InputStream;"), (35, u "bootLayer"), (0, u "Ljava/lang/ModuleLayer;"), (99, .class_ 664), (0, u "java/lang/System$2"), (9, u "NEVER"), (2, u "MAYBE"), (49, u "arraycopy"), (0, u "(Ljava/lang/Object;ILjava/lang/Object;II)V"), (72, .class_ 802), (0, u "java/lang/System$Logger$Level")] 31

def k3m0 : Method := { name := "<init>", desc := "()V", sig := { parameters := [], returnType := none }, accessFlags := 2, code := none }
def k3m1 : Method := { name := "arraycopy", desc := "(Ljava/lang/Object;ILjava/lang/Object;II)V", sig := { parameters := [(.object "java/lang/Object"), .int, (.object "java/lang/Object"), .int, .int], returnType := none }, accessFlags := 265, code := none }
/-- java/lang/System -/
def k3 : Class := { plain "java/lang/System" (some 0) with
  accessFlags := 49
  interfaces := #[]
  cf := some (fileOf pool3 8 #[.nestMembers #[319, 327, 801, 108, 663, 208]] #[{ accessFlags := 2, nameIndex := 5, descriptorIndex := 6, attributes := #[] }, { accessFlags := 265, nameIndex := 727, descriptorIndex := 728, attributes := #[] }] 49 2 #[] #[{ accessFlags := 25, nameIndex := 507, descriptorIndex := 526, attributes := #[] }, { accessFlags := 25, nameIndex := 399, descriptorIndex := 155, attributes := #[] }, { accessFlags := 25, nameIndex := 396, descriptorIndex := 155, attributes := #[] }, { accessFlags := 10, nameIndex := 525, descriptorIndex := 526, attributes := #[] }, { accessFlags := 26, nameIndex := 674, descriptorIndex := 12, attributes := #[] }, { accessFlags := 26, nameIndex := 677, descriptorIndex := 12, attributes := #[] }, { accessFlags := 10, nameIndex := 11, descriptorIndex := 12, attributes := #[] }, { accessFlags := 74, nameIndex := 175, descriptorIndex := 176, attributes := #[] }, { accessFlags := 10, nameIndex := 491, descriptorIndex := 222, attributes := #[] }, { accessFlags := 74, nameIndex := 29, descriptorIndex := 30, attributes := #[] }, { accessFlags := 74, nameIndex := 154, descriptorIndex := 155, attributes := #[] }, { accessFlags := 10, nameIndex := 217, descriptorIndex := 218, attributes := #[] }, { accessFlags := 10, nameIndex := 221, descriptorIndex := 222, attributes := #[] }, { accessFlags := 8, nameIndex := 562, descriptorIndex := 563, attributes := #[] }])
  fields := #[{ name := "in", type := (.object "java/io/InputStream"), accessFlags := 25, slot := 0, constantValue := 0 }, { name := "out", type := (.object "java/io/PrintStream"), accessFlags := 25, slot := 1, constantValue := 0 }, { name := "err", type := (.object "java/io/PrintStream"), accessFlags := 25, slot := 2, constantValue := 0 }, { name := "initialIn", type := (.object "java/io/InputStream"), accessFlags := 10, slot := 3, constantValue := 0 }, { name := "NEVER", type := .int, accessFlags := 26, slot := 4, constantValue := 0 }, { name := "MAYBE", type := .int, accessFlags := 26, slot := 5, constantValue := 0 }, { name := "allowSecurityManager", type := .int, accessFlags := 10, slot := 6, constantValue := 0 }, { name := "security", type := (.object "java/lang/SecurityManager"), accessFlags := 74, slot := 7, constantValue := 0 }, { name := "notSupportedJnuEncoding", type := (.object "java/lang/String"), accessFlags := 10, slot := 8, constantValue := 0 }, { name := "cons", type := (.object "java/io/Console"), accessFlags := 74, slot := 9, constantValue := 0 }, { name := "initialErrStream", type := (.object "java/io/PrintStream"), accessFlags := 74, slot := 10, constantValue := 0 }, { name := "props", type := (.object "java/util/Properties"), accessFlags := 10, slot := 11, constantValue := 0 }, { name := "lineSeparator", type := (.object "java/lang/String"), accessFlags := 10, slot := 12, constantValue := 0 }, { name := "bootLayer", type := (.object "java/lang/ModuleLayer"), accessFlags := 8, slot := 13, constantValue := 0 }]
  methods := #[k3m0, k3m1]
  instanceTypes := #[]
  staticTypes := #[(.object "java/io/InputStream"), (.object "java/io/PrintStream"), (.object "java/io/PrintStream"), (.object "java/io/InputStream"), .int, .int, .int, (.object "java/lang/SecurityManager"), (.object "java/lang/String"), (.object "java/io/Console"), (.object "java/io/PrintStream"), (.object "java/util/Properties"), (.object "java/lang/String"), (.object "java/lang/ModuleLayer")]
  resolved := Array.replicate 834 none
  statics := none }

def pool4 : Array CpInfo := pool [(1, u "java/lang/Cloneable"), (0, .class_ 1), (0, u "java/lang/Object"), (0, .class_ 3)] 3

/-- java/lang/Cloneable -/
def k4 : Class := { plain "java/lang/Cloneable" (some 0) with
  accessFlags := 1537
  interfaces := #[]
  cf := some (fileOf pool4 2 #[] #[] 1537 4 #[] #[])
  fields := #[]
  methods := #[]
  instanceTypes := #[]
  staticTypes := #[]
  resolved := Array.replicate 8 none
  statics := none }

def pool5 : Array CpInfo := pool [(1, u "java/io/Serializable"), (0, .class_ 1), (0, u "java/lang/Object"), (0, .class_ 3)] 3

/-- java/io/Serializable -/
def k5 : Class := { plain "java/io/Serializable" (some 0) with
  accessFlags := 1537
  interfaces := #[]
  cf := some (fileOf pool5 2 #[] #[] 1537 4 #[] #[])
  fields := #[]
  methods := #[]
  instanceTypes := #[]
  staticTypes := #[]
  resolved := Array.replicate 8 none
  statics := none }

/-- the primitive byte -/
def k6 : Class := { plain "byte" none with kind := .primitive 'B', accessFlags := 0x411 }
/-- [B -/
def k7 : Class := { plain "[B" (some 0) with kind := .array 6 .byte, interfaces := #[4, 5], accessFlags := 1041 }

/-- the primitive int -/
def k8 : Class := { plain "int" none with kind := .primitive 'I', accessFlags := 0x411 }
/-- [I -/
def k9 : Class := { plain "[I" (some 0) with kind := .array 8 .int, interfaces := #[4, 5], accessFlags := 1041 }

def heap : Heap := #[]
def classes : Array Class := #[k0, k1, k2, k3, k4, k5, k6, k7, k8, k9]
def interned : List (Array UInt16 × Addr) := []
def slotsUsed : Nat := 0
def theMethod : MethodId := ⟨1, 1⟩
def args0 : Array Value := #[.int 5, .int 5, .long 5]
def aboutOver (below : List Frame) : State where
  vm := { classes := classes, interned := interned.toArray }
  heap := heap
  slotsUsed := slotsUsed
  threads := #[{ frames := .invoking theMethod args0 :: below }]
def below0 : List Frame := [.native { method := ⟨0, 0⟩, args := #[] }]
def about1 : State := aboutOver below0
def p0 : Program := .bare "" "" ""
def e0 : Env := launch0.env 0 0 0
theorem w_frames : about1.frames = Frame.invoking theMethod args0 :: below0 := rfl
set_option maxRecDepth 65536 in
theorem w_args : argsFit about1.vm theMethod args0 = true := by decide +kernel
set_option maxRecDepth 65536 in
theorem w_heap : heapFits about1 = true := by decide +kernel
set_option maxRecDepth 65536 in
theorem w_runnable : about1.curStatus? = some .runnable := by decide +kernel
set_option maxRecDepth 65536 in
theorem w_alone : about1.alone = true := by decide +kernel
set_option maxRecDepth 65536 in
theorem w_named : about1.methodNamed? x = some theMethod := by decide +kernel
set_option maxRecDepth 65536 in
theorem w_hears : about1.hears theMethod below0 = true := by decide +kernel
set_option maxRecDepth 65536 in
theorem w_ripe : about1.ripe theMethod args0 below0 = true := by decide +kernel
theorem w_running : about1.status = .running := rfl
set_option maxRecDepth 65536 in
theorem w_room : about1.hasRoom e0.platform room_1 = true :=
  launch0.hasRoom_least _ room_1 (by decide +kernel) (by decide +kernel) (by decide +kernel) (by decide +kernel) (by decide +kernel) (by decide +kernel)
theorem allAtoms_all (ts : List Jvm.Cond) (a : Array Jvm.Value) (st : Jvm.State) : (allAtoms ts).before a st = ts.all (fun c => c.before a st) := by
  induction ts with
  | nil => rfl
  | cons c t ih =>
    show (Jvm.Cond.and c (allAtoms t)).before a st = _
    rw [Jvm.Cond.before_and, ih, List.all_cons]
def words1 : List Jvm.Cond := Jvm.Cond.code x code maxLocals ret :: tables_1
/-- a 'code' word, met by the world's own term for the bytes: nothing is compared byte by byte -/
theorem code_word {y : MethodName} {bytes : ByteArray} {mx : Nat} {rt : Option FieldType} {a : Array Value} {s : State} {m : MethodId} {meth : Method} {c : Code} (h1 : s.methodNamed? y = some m) (h2 : s.vm.method? m = some meth) (h3 : meth.code = some c) (h4 : c.code = bytes)
    (h5 : (c.maxLocals == mx && c.exceptionTable.isEmpty && decide (c.maxStack ≤ mostOperands) && decide (meth.sig.returnType = rt) && !meth.locks && decide (parseMethodDescriptor y.desc = some meth.sig)) = true) : (Jvm.Cond.code y bytes mx rt).before a s = true := by
  simp only [Bool.and_eq_true, beq_iff_eq, Bool.not_eq_true', decide_eq_true_eq] at h5
  obtain ⟨⟨⟨⟨⟨g1, g2⟩, g3⟩, g4⟩, g5⟩, g6⟩ := h5
  simp [Cond.before, Cond.holds, Cond.value, h1, h2, h3, h4, g1, g2, g3, g4, g5, g6]
def isCode : Jvm.Cond → Bool
  | .code _ _ _ _ => true
  | _ => false
theorem all_split {L : List Jvm.Cond} {P : Jvm.Cond → Bool} (h1 : L.all (fun c => isCode c || P c) = true) (h2 : ∀ c ∈ L.filter isCode, P c = true) : L.all P = true := by
  refine List.all_eq_true.mpr fun c hc => ?_
  have h := List.all_eq_true.mp h1 c hc
  rcases Bool.eq_false_or_eq_true (isCode c) with hi | hi
  · exact h2 c (List.mem_filter.mpr ⟨hc, hi⟩)
  · simpa [hi] using h
set_option maxRecDepth 65536 in
theorem w_c0 : (Jvm.Cond.code x code maxLocals ret).before args0 about1 = true := code_word (m := ⟨1, 1⟩) (meth := k1m1) (c := k1c1) (by decide +kernel) rfl rfl rfl (by decide +kernel)
set_option maxRecDepth 65536 in
theorem w_c1 : (Jvm.Cond.code ({ cls := "com/example/geogauge/geogauge/data/ByteBuilder", name := "<init>", desc := "(I)V" } : Jvm.MethodName) prog_35_method_2_code (2 : Nat) (Option.none : Option Jvm.ClassFile.FieldType)).before args0 about1 = true := code_word (m := ⟨2, 1⟩) (meth := k2m1) (c := k2c1) (by decide +kernel) rfl rfl rfl (by decide +kernel)
set_option maxRecDepth 65536 in
theorem w_c2 : (Jvm.Cond.code ({ cls := "java/lang/Object", name := "<init>", desc := "()V" } : Jvm.MethodName) object_method_1_code (1 : Nat) (Option.none : Option Jvm.ClassFile.FieldType)).before args0 about1 = true := code_word (m := ⟨0, 0⟩) (meth := k0m0) (c := k0c0) (by decide +kernel) rfl rfl rfl (by decide +kernel)
set_option maxRecDepth 65536 in
theorem w_c3 : (Jvm.Cond.code ({ cls := "com/example/geogauge/geogauge/data/ByteBuilder", name := "append", desc := "([B)Lcom/example/geogauge/geogauge/data/ByteBuilder;" } : Jvm.MethodName) prog_35_method_7_code (2 : Nat) (Option.some (Jvm.ClassFile.FieldType.object "com/example/geogauge/geogauge/data/ByteBuilder"))).before args0 about1 = true := code_word (m := ⟨2, 2⟩) (meth := k2m2) (c := k2c2) (by decide +kernel) rfl rfl rfl (by decide +kernel)
set_option maxRecDepth 65536 in
theorem w_c4 : (Jvm.Cond.code ({ cls := "com/example/geogauge/geogauge/data/ByteBuilder", name := "append", desc := "([BII)Lcom/example/geogauge/geogauge/data/ByteBuilder;" } : Jvm.MethodName) prog_35_method_8_code (4 : Nat) (Option.some (Jvm.ClassFile.FieldType.object "com/example/geogauge/geogauge/data/ByteBuilder"))).before args0 about1 = true := code_word (m := ⟨2, 3⟩) (meth := k2m3) (c := k2c3) (by decide +kernel) rfl rfl rfl (by decide +kernel)
set_option maxRecDepth 65536 in
theorem w_c5 : (Jvm.Cond.code ({ cls := "com/example/geogauge/geogauge/data/ByteBuilder", name := "ensureRoom", desc := "(I)V" } : Jvm.MethodName) prog_35_method_23_code (2 : Nat) (Option.none : Option Jvm.ClassFile.FieldType)).before args0 about1 = true := code_word (m := ⟨2, 7⟩) (meth := k2m7) (c := k2c7) (by decide +kernel) rfl rfl rfl (by decide +kernel)
set_option maxRecDepth 65536 in
theorem w_c6 : (Jvm.Cond.code ({ cls := "com/example/geogauge/geogauge/data/ByteBuilder", name := "setInt", desc := "(II)V" } : Jvm.MethodName) prog_35_method_14_code (3 : Nat) (Option.none : Option Jvm.ClassFile.FieldType)).before args0 about1 = true := code_word (m := ⟨2, 4⟩) (meth := k2m4) (c := k2c4) (by decide +kernel) rfl rfl rfl (by decide +kernel)
set_option maxRecDepth 65536 in
theorem w_c7 : (Jvm.Cond.code ({ cls := "com/example/geogauge/geogauge/data/ByteBuilder", name := "copyTo", desc := "(I[BII)V" } : Jvm.MethodName) prog_35_method_17_code (5 : Nat) (Option.none : Option Jvm.ClassFile.FieldType)).before args0 about1 = true := code_word (m := ⟨2, 6⟩) (meth := k2m6) (c := k2c6) (by decide +kernel) rfl rfl rfl (by decide +kernel)
set_option maxRecDepth 65536 in
theorem w_c8 : (Jvm.Cond.code ({ cls := "com/example/geogauge/geogauge/data/ByteBuilder", name := "length", desc := "()I" } : Jvm.MethodName) prog_35_method_15_code (1 : Nat) (Option.some Jvm.ClassFile.FieldType.int)).before args0 about1 = true := code_word (m := ⟨2, 5⟩) (meth := k2m5) (c := k2c5) (by decide +kernel) rfl rfl rfl (by decide +kernel)
set_option maxRecDepth 65536 in
theorem w_c9 : (Jvm.Cond.code ({ cls := "com/example/geogauge/geogauge/data/ByteBuilderSetIntPinLaw", name := "kept", desc := "([B[BII)Z" } : Jvm.MethodName) method_3_code (4 : Nat) (Option.some Jvm.ClassFile.FieldType.boolean)).before args0 about1 = true := code_word (m := ⟨1, 2⟩) (meth := k1m2) (c := k1c2) (by decide +kernel) rfl rfl rfl (by decide +kernel)
def codes1 : List Jvm.Cond := [Jvm.Cond.code x code maxLocals ret, Jvm.Cond.code ({ cls := "com/example/geogauge/geogauge/data/ByteBuilder", name := "<init>", desc := "(I)V" } : Jvm.MethodName) prog_35_method_2_code (2 : Nat) (Option.none : Option Jvm.ClassFile.FieldType), Jvm.Cond.code ({ cls := "java/lang/Object", name := "<init>", desc := "()V" } : Jvm.MethodName) object_method_1_code (1 : Nat) (Option.none : Option Jvm.ClassFile.FieldType), Jvm.Cond.code ({ cls := "com/example/geogauge/geogauge/data/ByteBuilder", name := "append", desc := "([B)Lcom/example/geogauge/geogauge/data/ByteBuilder;" } : Jvm.MethodName) prog_35_method_7_code (2 : Nat) (Option.some (Jvm.ClassFile.FieldType.object "com/example/geogauge/geogauge/data/ByteBuilder")), Jvm.Cond.code ({ cls := "com/example/geogauge/geogauge/data/ByteBuilder", name := "append", desc := "([BII)Lcom/example/geogauge/geogauge/data/ByteBuilder;" } : Jvm.MethodName) prog_35_method_8_code (4 : Nat) (Option.some (Jvm.ClassFile.FieldType.object "com/example/geogauge/geogauge/data/ByteBuilder")), Jvm.Cond.code ({ cls := "com/example/geogauge/geogauge/data/ByteBuilder", name := "ensureRoom", desc := "(I)V" } : Jvm.MethodName) prog_35_method_23_code (2 : Nat) (Option.none : Option Jvm.ClassFile.FieldType), Jvm.Cond.code ({ cls := "com/example/geogauge/geogauge/data/ByteBuilder", name := "setInt", desc := "(II)V" } : Jvm.MethodName) prog_35_method_14_code (3 : Nat) (Option.none : Option Jvm.ClassFile.FieldType), Jvm.Cond.code ({ cls := "com/example/geogauge/geogauge/data/ByteBuilder", name := "copyTo", desc := "(I[BII)V" } : Jvm.MethodName) prog_35_method_17_code (5 : Nat) (Option.none : Option Jvm.ClassFile.FieldType), Jvm.Cond.code ({ cls := "com/example/geogauge/geogauge/data/ByteBuilder", name := "length", desc := "()I" } : Jvm.MethodName) prog_35_method_15_code (1 : Nat) (Option.some Jvm.ClassFile.FieldType.int), Jvm.Cond.code ({ cls := "com/example/geogauge/geogauge/data/ByteBuilderSetIntPinLaw", name := "kept", desc := "([B[BII)Z" } : Jvm.MethodName) method_3_code (4 : Nat) (Option.some Jvm.ClassFile.FieldType.boolean)]
set_option maxRecDepth 65536 in
theorem codes_eq : words1.filter isCode = codes1 := rfl
theorem w_codes : ∀ c ∈ words1.filter isCode, c.before args0 about1 = true := by
  rw [codes_eq]
  intro c hc
  simp only [codes1, List.mem_cons, List.not_mem_nil, or_false] at hc
  rcases hc with rfl | rfl | rfl | rfl | rfl | rfl | rfl | rfl | rfl | rfl
  · exact w_c0
  · exact w_c1
  · exact w_c2
  · exact w_c3
  · exact w_c4
  · exact w_c5
  · exact w_c6
  · exact w_c7
  · exact w_c8
  · exact w_c9
set_option maxRecDepth 65536 in
theorem w_t1 : (words1.take 24).all (fun c => isCode c || c.before args0 about1) = true := by decide +kernel
set_option maxRecDepth 65536 in
theorem w_t2 : ((words1.drop 24).take 24).all (fun c => isCode c || c.before args0 about1) = true := by decide +kernel
set_option maxRecDepth 65536 in
theorem w_t3 : ((words1.drop 24).drop 24).all (fun c => isCode c || c.before args0 about1) = true := by decide +kernel
theorem w_tables : (allAtoms (Jvm.Cond.code x code maxLocals ret :: tables_1)).before args0 about1 = true := by
  rw [allAtoms_all]
  show words1.all (fun c => c.before args0 about1) = true
  refine all_split ?_ w_codes
  rw [← List.take_append_drop 24 words1, List.all_append, w_t1, ← List.take_append_drop 24 (words1.drop 24), List.all_append, w_t2, w_t3]
  rfl
set_option maxRecDepth 65536 in
theorem w_case : (Jvm.Cond.and given_1 narrow_1).before args0 about1 = true := by decide +kernel
theorem w_applies : (headSpec (Jvm.Cond.code x code maxLocals ret :: tables_1) room_1).applies x e0.platform about1 = true :=
  (Spec.applies_iff w_frames).mpr ⟨w_running, w_runnable, w_alone, w_named, w_hears, w_ripe, w_room, w_tables⟩
theorem atStart : AtStart classFile x code maxLocals ret World_1 tables_1 room_1 Calls_1 rest_1 Pre_1 launch0 p0 e0 about1 theMethod args0 below0 :=
  ⟨lists_1, trivial, launch0.admits_env _ _ _, launch0.least_env, fairChoices_fair.cas, fairChoices_fair.clock, w_frames, w_args, w_heap, w_applies, trivial, trivial, w_case⟩
end start1
theorem witness_1 : WitnessClaimed_1 := ⟨start1.p0, start1.e0, start1.about1, start1.theMethod, start1.args0, start1.below0, start1.atStart⟩
end Jvm.Pilot.@@N@@
