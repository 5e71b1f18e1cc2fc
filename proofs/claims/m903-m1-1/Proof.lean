import JvmDerived
import JvmDerived.Pilot.@@N@@Statement
import JvmDerived.Pilot.@@N@@Code
set_option linter.unusedVariables false
set_option linter.unusedSimpArgs false
namespace Jvm.RoadKit
open Sem ClassFile Op Lib Jvm.Stand Jvm.Free Jvm.LawKit
section New
variable {p : Program} {l : Launch} {e : Env} {R : Room} {s : State} {m : MethodId} {args : Array Value} {below : List Frame} {meth : Method} {c : Code} {T : State} {locs : List Loc} {cells slots : Nat}
theorem retI (X : Stand p l e R s m args below meth c T locs cells slots) (hx : p.tables.exec = Jvm.exec) {pc : Nat} {Ls : Array Slot} {z : Int32} {rest : List Value} (hret : meth.sig.returnType = some .int) (hd : decode c.code pc = .ok (.ireturn, 1)) {fs : List Frame}
    (hl : ∀ (f : JFrame) (acts : List Action), f.method = m → f.locked = none → f.entered = [] → (doReturn e (T.setTop f) acts (some (.int z))).1 = T.setFrames fs) : Steps p.tables e below (T.setTop (mkF m pc Ls (.int z :: rest))) (T.setFrames fs) := by
  have hm' : T.vm.method? m = some meth := X.method'
  have hn : narrow .int (.int z) = .int z := rfl
  show Steps p.tables e below (T.setTop { method := m, pc := pc, locals := Ls, stack := _ :: rest, locked := none }) _
  jvm_step X.here [X.here.top, hx, hd, hm', hret, hn]
  first | (intro acts; rw [hl _ acts rfl rfl rfl]) | rw [hl _ _ rfl rfl rfl]
  exact Steps.refl _
theorem retA (X : Stand p l e R s m args below meth c T locs cells slots) (hx : p.tables.exec = Jvm.exec) {pc : Nat} {Ls : Array Slot} {a : Addr} {t : FieldType} {rest : List Value} (hret : meth.sig.returnType = some t) (ht : t.isReference = true) (hn : narrow t (.ref a) = .ref a) (hd : decode c.code pc = .ok (.areturn, 1)) {fs : List Frame}
    (hl : ∀ (f : JFrame) (acts : List Action), f.method = m → f.locked = none → f.entered = [] → (doReturn e (T.setTop f) acts (some (.ref a))).1 = T.setFrames fs) : Steps p.tables e below (T.setTop (mkF m pc Ls (.ref a :: rest))) (T.setFrames fs) :=
  retOut X hx hret hn (Or.inr (Or.inr (Or.inr (Or.inr ⟨rfl, ht, rfl⟩)))) hd hl
def Gd (tb : Tables) (e : Env) (below : List Frame) (P : State → Outcome → Prop) (A : State) : Prop := ∃ t o, Steps tb e below A t ∧ P t o
theorem Gd.out {tb : Tables} {P : State → Outcome → Prop} {A : State} (h : Gd tb e below P A) : ∃ t o, Steps tb e below A t ∧ P t o := h
theorem Gd.st {tb : Tables} {P : State → Outcome → Prop} {A B : State} (h : ∀ t, Steps tb e below B t → Steps tb e below A t) (k : Gd tb e below P B) : Gd tb e below P A := by
  obtain ⟨t, o, k1, k2⟩ := k; exact ⟨t, o, h t k1, k2⟩
theorem Gd.join {tb : Tables} {P : State → Outcome → Prop} {A B : State} (h : Gd tb e below P B → Gd tb e below P A) (k : Gd tb e below P B) : Gd tb e below P A := h k
theorem Gd.mk {tb : Tables} {P : State → Outcome → Prop} {A t : State} {o : Outcome} (h : Steps tb e below A t) (k : P t o) : Gd tb e below P A := ⟨t, o, h, k⟩
end New
end Jvm.RoadKit
namespace Jvm.Pilot.@@N@@
open Jvm Jvm.ClassFile Sem Op Lib Jvm.Free Jvm.Stand Jvm.LawKit Jvm.RoadKit Bundle Jvm.Pilot.@@N@@.Jvm.D
def own_up (f : Nat → Int32) (i : Nat) (v : Int32) : Nat → Int32 := fun m => if m = i then v else f m
theorem own_lt (j : Int32) (h : ¬ j < 0 ∧ j < (5 : Int32)) : j.toNatClampNeg < 5 := by
  obtain ⟨h1, h2⟩ := h
  rw [Int32.lt_iff_toInt_lt] at h1 h2
  have e0 : (0 : Int32).toInt = 0 := rfl
  have e8 : (5 : Int32).toInt = 5 := rfl
  unfold Int32.toNatClampNeg
  omega
theorem own_inb (j : Int32) (h : 0 ≤ j.toInt ∧ j.toInt < 5) : ¬ j < 0 ∧ j < (5 : Int32) := by
  rw [Int32.lt_iff_toInt_lt, Int32.lt_iff_toInt_lt]
  have e0 : (0 : Int32).toInt = 0 := rfl
  have e8 : (5 : Int32).toInt = 5 := rfl
  omega
def own_vs (f : Nat → Int32) : List Value := [.int (f 0), .int (f 1), .int (f 2), .int (f 3), .int (f 4)]
theorem own_get (f : Nat → Int32) (i : Nat) (h : i < 5) : (own_vs f).getD i (.int (0 : Int32)) = .int (f i) := by
  have : i = 0 ∨ i = 1 ∨ i = 2 ∨ i = 3 ∨ i = 4 := by omega
  rcases this with rfl | rfl | rfl | rfl | rfl <;> rfl
theorem own_vset (f : Nat → Int32) (i : Nat) (v : Int32) (h : i < 5) : (own_vs f).set i (.int v) = own_vs (own_up f i v) := by
  have : i = 0 ∨ i = 1 ∨ i = 2 ∨ i = 3 ∨ i = 4 := by omega
  rcases this with rfl | rfl | rfl | rfl | rfl <;> rfl
theorem own_put {Z : State} {h h' : Heap} {a : Addr} {k : ClassId} {f : Nat → Int32} {c : Cell} {j x : Int32} (A : Arr Z h a c .byte) (q1 : c.cls = k) (S : c.slots.size = (5 : Int32).toNatClampNeg) (q3 : ¬ (5 : Int32) < 0) (H : Has c (own_vs f) (.int (0 : Int32))) (G : ∀ i, i < c.slots.size → fits .byte ((own_vs f).getD i (.int (0 : Int32))) = true)
    (W : Wr h h' a j.toNatClampNeg (.int (nar .byte x))) (hj : j.toNatClampNeg < 5) : Arv Z h' a k .byte (5 : Int32) (own_vs (own_up f j.toNatClampNeg x.toInt8.toInt32)) (.int (0 : Int32)) := by
  have := Arv.set A q1 S q3 H G (fits_nar_byte x) W j.toNatClampNeg rfl (show j.toNatClampNeg < 5 from hj)
  rwa [own_vset _ _ _ hj] at this
def own_rh (f : Nat → Int32) : Nat → Nat → Int32 → Int32
  | _, 0, h => h
  | i, k + 1, h => own_rh f (i + 1) k ((31 : Int32) * h + f i)
def own_sh (w k : Int32) : Int32 := (w.toUInt32 >>> (k &&& 31).toUInt32).toInt32
def own_rm (x y : Int32) : Int32 := x - (x / y) * y
theorem own_rmr (x y : Int32) (hx : 0 ≤ x.toInt) (hy : 0 < y.toInt) : 0 ≤ (own_rm x y).toInt ∧ (own_rm x y).toInt < y.toInt := by
  unfold own_rm
  rw [irem_eq_mod]
  have := (c_iremV x y).1 hx hy
  exact ⟨this.1, this.2.1⟩
theorem own_add (a b : Int32) (ha : 0 ≤ a.toInt ∧ a.toInt ≤ 16) (hb : 0 ≤ b.toInt ∧ b.toInt ≤ 16) : (a + b).toInt = a.toInt + b.toInt := by
  have h1 := c_iadd a b
  have h2 := rng32 (a + b)
  omega
theorem own_sub (a b : Int32) (ha : 0 ≤ a.toInt ∧ a.toInt ≤ 16) (hb : 0 ≤ b.toInt ∧ b.toInt ≤ 16) : (a - b).toInt = a.toInt - b.toInt := by
  have h1 := c_isub a b
  have h2 := rng32 (a - b)
  omega
def own_f5 (a b c d e : Int32) : Nat → Int32
  | 0 => a
  | 1 => b
  | 2 => c
  | 3 => d
  | 4 => e
  | _ => 0
def own_p (r : Int32) : Int32 := own_rm (r &&& (7 : Int32)) (6 : Int32)
def own_t (r : Int32) : Int32 := own_p r + own_rm (own_sh r (3 : Int32) &&& (7 : Int32)) ((6 : Int32) - own_p r)
theorem own_pr (r : Int32) : 0 ≤ (own_p r).toInt ∧ (own_p r).toInt ≤ 5 := by
  have := own_rmr (r &&& 7) 6 (c_and r 7 (by decide)).1 (by decide)
  have e : (6 : Int32).toInt = 6 := rfl
  unfold own_p
  omega
theorem own_nz (r : Int32) : (6 : Int32) - own_p r ≠ 0 := by
  have h := own_pr r
  have e : ((6 : Int32) - own_p r).toInt = 6 - (own_p r).toInt := own_sub 6 (own_p r) (by decide) (by omega)
  intro q
  rw [q, show (0 : Int32).toInt = 0 from rfl] at e
  omega
theorem own_tr (r : Int32) : (own_p r).toInt ≤ (own_t r).toInt ∧ (own_t r).toInt ≤ 5 := by
  have h := own_pr r
  have e : ((6 : Int32) - own_p r).toInt = 6 - (own_p r).toInt := own_sub 6 (own_p r) (by decide) (by omega)
  have h2 := own_rmr (own_sh r (3 : Int32) &&& (7 : Int32)) ((6 : Int32) - own_p r) (c_and _ 7 (by decide)).1 (by omega)
  unfold own_t
  rw [own_add _ _ (by omega) (by omega)]
  omega
theorem own_hb (r : Int32) : 0 ≤ (own_p r).toInt ∧ (own_p r).toInt + (((own_t r).toInt - (own_p r).toInt).toNat : Nat) = (own_t r).toInt ∧ (own_t r).toInt ≤ 5 := by
  have h := own_pr r
  have h2 := own_tr r
  omega
def own_rj (f : Nat → Int32) (p t j h : Int32) : Int32 := if (¬ j < p) ∧ j < t then (31 : Int32) * h + f j.toNatClampNeg else h
def own_ref (f : Nat → Int32) (p t : Int32) : Int32 := own_rj f p t (4 : Int32) (own_rj f p t (3 : Int32) (own_rj f p t (2 : Int32) (own_rj f p t (1 : Int32) (own_rj f p t (0 : Int32) (0 : Int32)))))
theorem own_six (p : Int32) (h : 0 ≤ p.toInt ∧ p.toInt ≤ 5) : p = (0 : Int32) ∨ p = (1 : Int32) ∨ p = (2 : Int32) ∨ p = (3 : Int32) ∨ p = (4 : Int32) ∨ p = (5 : Int32) := by
  simp only [← Int32.toInt_inj, show (0 : Int32).toInt = 0 from rfl, show (1 : Int32).toInt = 1 from rfl, show (2 : Int32).toInt = 2 from rfl, show (3 : Int32).toInt = 3 from rfl, show (4 : Int32).toInt = 4 from rfl, show (5 : Int32).toInt = 5 from rfl]
  omega
theorem own_eq (f : Nat → Int32) (p t : Int32) (h : 0 ≤ p.toInt ∧ p.toInt ≤ 5) (h2 : p.toInt ≤ t.toInt ∧ t.toInt ≤ 5) : own_rh f p.toNatClampNeg (t.toInt - p.toInt).toNat (0 : Int32) = own_ref f p t := by
  have h3 := own_six t (by omega)
  rcases own_six p h with rfl | rfl | rfl | rfl | rfl | rfl <;> rcases h3 with rfl | rfl | rfl | rfl | rfl | rfl <;> first | rfl | (exact absurd h2.1 (by decide))
theorem own_law (f : Nat → Int32) (r : Int32) : own_rh f (own_p r).toNatClampNeg (((own_t r).toInt - (own_p r).toInt).toNat) (0 : Int32) = own_ref f (own_p r) (own_t r) := own_eq f _ _ (own_pr r) (own_tr r)
theorem d3_0 : decode prog_6_method_2_code 0 = .ok (.aload_n 0, 1) := by decide +kernel
theorem d3_1 : decode prog_6_method_2_code 1 = .ok (.aload_n 1, 1) := by decide +kernel
theorem d3_2 : decode prog_6_method_2_code 2 = .ok (.putfield 13, 3) := by decide +kernel
theorem d3_5 : decode prog_6_method_2_code 5 = .ok (.aload_n 0, 1) := by decide +kernel
theorem d3_6 : decode prog_6_method_2_code 6 = .ok (.iload_n 2, 1) := by decide +kernel
theorem d3_7 : decode prog_6_method_2_code 7 = .ok (.putfield 17, 3) := by decide +kernel
theorem d3_10 : decode prog_6_method_2_code 10 = .ok (.aload_n 0, 1) := by decide +kernel
theorem d3_11 : decode prog_6_method_2_code 11 = .ok (.iload_n 3, 1) := by decide +kernel
theorem d3_12 : decode prog_6_method_2_code 12 = .ok (.putfield 21, 3) := by decide +kernel
theorem d3_15 : decode prog_6_method_2_code 15 = .ok (.aload_n 0, 1) := by decide +kernel
theorem d3_16 : decode prog_6_method_2_code 16 = .ok (.iconst 0, 1) := by decide +kernel
theorem d3_17 : decode prog_6_method_2_code 17 = .ok (.putfield 24, 3) := by decide +kernel
theorem d3_20 : decode prog_6_method_2_code 20 = .ok (.return_, 1) := by decide +kernel
theorem pn_AsciiText : plainName "com/example/hereafter/hereafter/io/AsciiText" = true := by first | (simp [plainName, overriddenIn]; done) | decide +kernel
theorem ef_3 (m : MethodId) (x0 : Addr) (x1 : Addr) (x2 : Int32) (x3 : Int32) : entryFrame m #[(.ref x0), (.ref x1), (.int x2), (.int x3)] 4 = mkF m 0 #[.val (.ref x0), .val (.ref x1), .val (.int x2), .val (.int x3)] [] := by first | (simp [entryFrame, mkF, argsToLocals, Value.category]; done) | rfl
def Q3 (Z : State) (a1 : Addr) (a2 : Addr) (p3 : Int32) (p4 : Int32) (u0 : Value) (u1 : Value) (u2 : Value) (u3 : Value) (u4 : Value) (h0 : Heap) (n0 : Nat) (v : Option Value) (h : Heap) (L : List Loc) : Prop := v = none ∧ Fr n0 L ∧ Keep h0 h [a1] ∧ Exa Z h a1 "com/example/hereafter/hereafter/io/AsciiText" ∧ Fld Z h a1 "com/example/hereafter/hereafter/io/AsciiText" "bytes" "[B" (.ref a2) ∧ Fld Z h a1 "com/example/hereafter/hereafter/io/AsciiText" "from" "I" (.int p3) ∧ Fld Z h a1 "com/example/hereafter/hereafter/io/AsciiText" "to" "I" (.int p4) ∧ Fld Z h a1 "com/example/hereafter/hereafter/io/AsciiText" "hashed" "Z" (.int (0 : Int32)) ∧ Fld Z h a1 "com/example/hereafter/hereafter/io/AsciiText" "hash" "I" u4
set_option maxRecDepth 65536 in
set_option maxHeartbeats 40000000 in
theorem rm3 (l : Launch) (Z : State) (a0 : Array Value) (hw : ∀ d ∈ tables_1, d.before a0 Z = true) (ws : List Jvm.Cond) (a1 : Addr) (a2 : Addr) (p3 : Int32) (p4 : Int32) (u0 : Value) (u1 : Value) (u2 : Value) (u3 : Value) (u4 : Value) (h0 : Heap) (n0 : Nat) (Z0 : n0 ≤ h0.size) (E0 : Exa Z h0 a1 "com/example/hereafter/hereafter/io/AsciiText") (F0_0 : Fld Z h0 a1 "com/example/hereafter/hereafter/io/AsciiText" "bytes" "[B" u0) (F0_1 : Fld Z h0 a1 "com/example/hereafter/hereafter/io/AsciiText" "from" "I" u1) (F0_2 : Fld Z h0 a1 "com/example/hereafter/hereafter/io/AsciiText" "to" "I" u2) (F0_3 : Fld Z h0 a1 "com/example/hereafter/hereafter/io/AsciiText" "hashed" "Z" u3) (F0_4 : Fld Z h0 a1 "com/example/hereafter/hereafter/io/AsciiText" "hash" "I" u4) (g_a1 : n0 ≤ a1) :
    MetFree l (⟨"com/example/hereafter/hereafter/io/AsciiText", "set", "([BII)V"⟩ : MethodName) (head1 (Jvm.Cond.code (⟨"com/example/hereafter/hereafter/io/AsciiText", "set", "([BII)V"⟩ : MethodName) prog_6_method_2_code 4 none :: ws) ({ frames := 0, cells := 0, slots := 0, locals := 0 } : Room)) (fun a U => a = #[(.ref a1), (.ref a2), (.int p3), (.int p4)] ∧ Z.Warmed39 U.vm ∧ U.heap = h0) (fun _ _ _ _ _ => True) (fun _ U o U' => ∃ v L, o = .returned v ∧ Q3 Z a1 a2 p3 p4 u0 u1 u2 u3 u4 h0 n0 v U'.heap L ∧ FrameEnd U o U' L ({ frames := 0, cells := 0, slots := 0, locals := 0 } : Room).cells ({ frames := 0, cells := 0, slots := 0, locals := 0 } : Room).slots) := by
  refine MetFree.of_bodySF (plainFor_of_name pn_AsciiText) hisR ?_
  intro p e s m args below meth c s₁ Bd hml0 hP hK
  obtain ⟨rfl, hZ, hh⟩ := hP
  have hx := Bd.exec
  have hby := Bd.bytes
  have hml : c.maxLocals = 4 := hml0
  have hown : s.vm.findClass "com/example/hereafter/hereafter/io/AsciiText" = some m.cls := findClass_of_methodNamed Bd.named
  have hnm := (name_of_methodNamed Bd.named Bd.method).1
  have X0 : Stand p l e ({ frames := 0, cells := 0, slots := 0, locals := 0 } : Room) s m #[(.ref a1), (.ref a2), (.int p3), (.int p4)] below meth c s₁ [] 0 0 := Stand.of_body Bd
  have e0 : s₁.heap = h0 := by rw [← hh, Bd.state]; rfl
  have N0 := Fr.nil n0
  refine Gd.out (Gd.st (fun t k => castTop (ef_3 m a1 a2 p3 p4) k) ?_)
  show Gd p.tables e below _ (s₁.setTop (mkF m 0 #[.val (.ref a1), .val (.ref a2), .val (.int p3), .val (.int p4)] []))
  refine Gd.st (fun _ k => XS.aloadN X0.here hx rfl (hb hby d3_0) rfl rfl k) ?_
  show Gd p.tables e below _ (s₁.setTop (mkF m 1 #[.val (.ref a1), .val (.ref a2), .val (.int p3), .val (.int p4)] [(.ref a1)]))
  refine Gd.st (fun _ k => XS.aloadN X0.here hx rfl (hb hby d3_1) rfl rfl k) ?_
  show Gd p.tables e below _ (s₁.setTop (mkF m 2 #[.val (.ref a1), .val (.ref a2), .val (.int p3), .val (.int p4)] [(.ref a2), (.ref a1)]))
  obtain ⟨T1, h1, X1, e1, W1, st1⟩ := putF X0 hx hZ hown (host := "") (Or.inl (hw _ (List.mem_of_getElem? (i := 15) rfl))) Via.refl e0 F0_0 E0 (Or.inl (hw _ (List.mem_of_getElem? (i := 16) rfl))) (hw _ (List.mem_of_getElem? (i := 2) rfl)) (ty := (.array .byte)) (by decide) rfl rfl (g := (mkF m 2 #[.val (.ref a1), .val (.ref a2), .val (.int p3), .val (.int p4)] [(.ref a2), (.ref a1)])) rfl rfl (hb hby d3_2)
  refine Gd.st st1 ?_
  have Fw1 := F0_0.same W1
  have N1 := Fr.snoc X1 N0 g_a1
  have Z2 : n0 ≤ h1.size := Nat.le_trans Z0 (Keep.of_wr W1).1
  have K3 : Keep h0 h1 [a1] := (Keep.refl h0 [a1]).wr W1 (Or.inl (List.mem_of_getElem? (i := 0) rfl))
  show Gd p.tables e below _ (T1.setTop (mkF m 5 #[.val (.ref a1), .val (.ref a2), .val (.int p3), .val (.int p4)] []))
  refine Gd.st (fun _ k => XS.aloadN X1.here hx rfl (hb hby d3_5) rfl rfl k) ?_
  show Gd p.tables e below _ (T1.setTop (mkF m 6 #[.val (.ref a1), .val (.ref a2), .val (.int p3), .val (.int p4)] [(.ref a1)]))
  refine Gd.st (fun _ k => XS.iloadN X1.here hx rfl (hb hby d3_6) rfl k) ?_
  show Gd p.tables e below _ (T1.setTop (mkF m 7 #[.val (.ref a1), .val (.ref a2), .val (.int p3), .val (.int p4)] [(.int p3), (.ref a1)]))
  have q4 := (Fld.other W1 F0_1 (Or.inr (slot_ne (Or.inl (hw _ (List.mem_of_getElem? (i := 18) rfl))) (Or.inl (hw _ (List.mem_of_getElem? (i := 16) rfl))) (by decide) (t := .int) (t' := (.array .byte)) (by decide) (by decide))))
  have q5 := (E0.wr W1)
  obtain ⟨T6, h6, X6, e6, W6, st6⟩ := putF X1 hx hZ hown (host := "") (Or.inl (hw _ (List.mem_of_getElem? (i := 17) rfl))) Via.refl e1 q4 q5 (Or.inl (hw _ (List.mem_of_getElem? (i := 18) rfl))) (hw _ (List.mem_of_getElem? (i := 2) rfl)) (ty := .int) (by decide) rfl rfl (g := (mkF m 7 #[.val (.ref a1), .val (.ref a2), .val (.int p3), .val (.int p4)] [(.int p3), (.ref a1)])) rfl rfl (hb hby d3_7)
  refine Gd.st st6 ?_
  have Fw6 := q4.same W6
  have N6 := Fr.snoc X6 N1 g_a1
  have Z7 : n0 ≤ h6.size := Nat.le_trans Z2 (Keep.of_wr W6).1
  have K8 : Keep h0 h6 [a1] := K3.wr W6 (Or.inl (List.mem_of_getElem? (i := 0) rfl))
  show Gd p.tables e below _ (T6.setTop (mkF m 10 #[.val (.ref a1), .val (.ref a2), .val (.int p3), .val (.int p4)] []))
  refine Gd.st (fun _ k => XS.aloadN X6.here hx rfl (hb hby d3_10) rfl rfl k) ?_
  show Gd p.tables e below _ (T6.setTop (mkF m 11 #[.val (.ref a1), .val (.ref a2), .val (.int p3), .val (.int p4)] [(.ref a1)]))
  refine Gd.st (fun _ k => XS.iloadN X6.here hx rfl (hb hby d3_11) rfl k) ?_
  show Gd p.tables e below _ (T6.setTop (mkF m 12 #[.val (.ref a1), .val (.ref a2), .val (.int p3), .val (.int p4)] [(.int p4), (.ref a1)]))
  have q9 := (Fld.other W6 (Fld.other W1 F0_2 (Or.inr (slot_ne (Or.inl (hw _ (List.mem_of_getElem? (i := 20) rfl))) (Or.inl (hw _ (List.mem_of_getElem? (i := 16) rfl))) (by decide) (t := .int) (t' := (.array .byte)) (by decide) (by decide)))) (Or.inr (slot_ne (Or.inl (hw _ (List.mem_of_getElem? (i := 20) rfl))) (Or.inl (hw _ (List.mem_of_getElem? (i := 18) rfl))) (by decide) (t := .int) (t' := .int) (by decide) (by decide))))
  have q10 := (q5.wr W6)
  obtain ⟨T11, h11, X11, e11, W11, st11⟩ := putF X6 hx hZ hown (host := "") (Or.inl (hw _ (List.mem_of_getElem? (i := 19) rfl))) Via.refl e6 q9 q10 (Or.inl (hw _ (List.mem_of_getElem? (i := 20) rfl))) (hw _ (List.mem_of_getElem? (i := 2) rfl)) (ty := .int) (by decide) rfl rfl (g := (mkF m 12 #[.val (.ref a1), .val (.ref a2), .val (.int p3), .val (.int p4)] [(.int p4), (.ref a1)])) rfl rfl (hb hby d3_12)
  refine Gd.st st11 ?_
  have Fw11 := q9.same W11
  have N11 := Fr.snoc X11 N6 g_a1
  have Z12 : n0 ≤ h11.size := Nat.le_trans Z7 (Keep.of_wr W11).1
  have K13 : Keep h0 h11 [a1] := K8.wr W11 (Or.inl (List.mem_of_getElem? (i := 0) rfl))
  show Gd p.tables e below _ (T11.setTop (mkF m 15 #[.val (.ref a1), .val (.ref a2), .val (.int p3), .val (.int p4)] []))
  refine Gd.st (fun _ k => XS.aloadN X11.here hx rfl (hb hby d3_15) rfl rfl k) ?_
  show Gd p.tables e below _ (T11.setTop (mkF m 16 #[.val (.ref a1), .val (.ref a2), .val (.int p3), .val (.int p4)] [(.ref a1)]))
  refine Gd.st (fun _ k => XS.iconst X11.here hx rfl (hb hby d3_16) k) ?_
  show Gd p.tables e below _ (T11.setTop (mkF m 17 #[.val (.ref a1), .val (.ref a2), .val (.int p3), .val (.int p4)] [(.int (0 : Int32)), (.ref a1)]))
  have q14 := (Fld.other W11 (Fld.other W6 (Fld.other W1 F0_3 (Or.inr (slot_ne (Or.inl (hw _ (List.mem_of_getElem? (i := 22) rfl))) (Or.inl (hw _ (List.mem_of_getElem? (i := 16) rfl))) (by decide) (t := .boolean) (t' := (.array .byte)) (by decide) (by decide)))) (Or.inr (slot_ne (Or.inl (hw _ (List.mem_of_getElem? (i := 22) rfl))) (Or.inl (hw _ (List.mem_of_getElem? (i := 18) rfl))) (by decide) (t := .boolean) (t' := .int) (by decide) (by decide)))) (Or.inr (slot_ne (Or.inl (hw _ (List.mem_of_getElem? (i := 22) rfl))) (Or.inl (hw _ (List.mem_of_getElem? (i := 20) rfl))) (by decide) (t := .boolean) (t' := .int) (by decide) (by decide))))
  have q15 := (q10.wr W11)
  obtain ⟨T16, h16, X16, e16, W16, st16⟩ := putFN X11 hx hZ hown (hw _ (List.mem_of_getElem? (i := 21) rfl)) Via.refl e11 q14 q15 (Or.inl (hw _ (List.mem_of_getElem? (i := 22) rfl))) (hw _ (List.mem_of_getElem? (i := 2) rfl)) (ty := .boolean) (v' := (.int (0 : Int32))) (by decide) rfl rfl (g := (mkF m 17 #[.val (.ref a1), .val (.ref a2), .val (.int p3), .val (.int p4)] [(.int (0 : Int32)), (.ref a1)])) rfl rfl (hb hby d3_17)
  refine Gd.st st16 ?_
  have Fw16 := q14.same W16
  have N16 := Fr.snoc X16 N11 g_a1
  have Z17 : n0 ≤ h16.size := Nat.le_trans Z12 (Keep.of_wr W16).1
  have K18 : Keep h0 h16 [a1] := K13.wr W16 (Or.inl (List.mem_of_getElem? (i := 0) rfl))
  show Gd p.tables e below _ (T16.setTop (mkF m 20 #[.val (.ref a1), .val (.ref a2), .val (.int p3), .val (.int p4)] []))
  obtain ⟨fs, hr, hrun, hended, hW, hsame⟩ := X16.leave (v := none) (fun _ => rfl) Bd.notSynchronized
  have q19 := (q15.wr W16)
  have q20 := (Fld.other W16 (Fld.other W11 (Fld.other W6 Fw1 (Or.inr (slot_ne (Or.inl (hw _ (List.mem_of_getElem? (i := 16) rfl))) (Or.inl (hw _ (List.mem_of_getElem? (i := 18) rfl))) (by decide) (t := (.array .byte)) (t' := .int) (by decide) (by decide)))) (Or.inr (slot_ne (Or.inl (hw _ (List.mem_of_getElem? (i := 16) rfl))) (Or.inl (hw _ (List.mem_of_getElem? (i := 20) rfl))) (by decide) (t := (.array .byte)) (t' := .int) (by decide) (by decide)))) (Or.inr (slot_ne (Or.inl (hw _ (List.mem_of_getElem? (i := 16) rfl))) (Or.inl (hw _ (List.mem_of_getElem? (i := 22) rfl))) (by decide) (t := (.array .byte)) (t' := .boolean) (by decide) (by decide))))
  have q21 := (Fld.other W16 (Fld.other W11 Fw6 (Or.inr (slot_ne (Or.inl (hw _ (List.mem_of_getElem? (i := 18) rfl))) (Or.inl (hw _ (List.mem_of_getElem? (i := 20) rfl))) (by decide) (t := .int) (t' := .int) (by decide) (by decide)))) (Or.inr (slot_ne (Or.inl (hw _ (List.mem_of_getElem? (i := 18) rfl))) (Or.inl (hw _ (List.mem_of_getElem? (i := 22) rfl))) (by decide) (t := .int) (t' := .boolean) (by decide) (by decide))))
  have q22 := (Fld.other W16 Fw11 (Or.inr (slot_ne (Or.inl (hw _ (List.mem_of_getElem? (i := 20) rfl))) (Or.inl (hw _ (List.mem_of_getElem? (i := 22) rfl))) (by decide) (t := .int) (t' := .boolean) (by decide) (by decide))))
  have q23 := (Fld.other W16 (Fld.other W11 (Fld.other W6 (Fld.other W1 F0_4 (Or.inr (slot_ne (Or.inl (hw _ (List.mem_of_getElem? (i := 29) rfl))) (Or.inl (hw _ (List.mem_of_getElem? (i := 16) rfl))) (by decide) (t := .int) (t' := (.array .byte)) (by decide) (by decide)))) (Or.inr (slot_ne (Or.inl (hw _ (List.mem_of_getElem? (i := 29) rfl))) (Or.inl (hw _ (List.mem_of_getElem? (i := 18) rfl))) (by decide) (t := .int) (t' := .int) (by decide) (by decide)))) (Or.inr (slot_ne (Or.inl (hw _ (List.mem_of_getElem? (i := 29) rfl))) (Or.inl (hw _ (List.mem_of_getElem? (i := 20) rfl))) (by decide) (t := .int) (t' := .int) (by decide) (by decide)))) (Or.inr (slot_ne (Or.inl (hw _ (List.mem_of_getElem? (i := 29) rfl))) (Or.inl (hw _ (List.mem_of_getElem? (i := 22) rfl))) (by decide) (t := .int) (t' := .boolean) (by decide) (by decide))))
  refine Gd.mk (o := .returned (none)) (X16.returnOut hx Bd.returns (hb hby d3_20) hr) ⟨hrun, hended, _, _, rfl, ?_, ⟨_, rfl⟩, hW, hsame.mono (by decide) (by decide)⟩
  show Q3 Z a1 a2 p3 p4 u0 u1 u2 u3 u4 h0 n0 _ T16.heap _
  rw [e16]
  exact ⟨rfl, N16, K18, q19, q20, q21, q22, Fw16, q23⟩
theorem d1_0 : decode prog_6_method_1_code 0 = .ok (.aload_n 0, 1) := by decide +kernel
theorem d1_1 : decode prog_6_method_1_code 1 = .ok (.invokespecial 1, 3) := by decide +kernel
theorem d1_4 : decode prog_6_method_1_code 4 = .ok (.aload_n 0, 1) := by decide +kernel
theorem d1_5 : decode prog_6_method_1_code 5 = .ok (.aload_n 1, 1) := by decide +kernel
theorem d1_6 : decode prog_6_method_1_code 6 = .ok (.iload_n 2, 1) := by decide +kernel
theorem d1_7 : decode prog_6_method_1_code 7 = .ok (.iload_n 3, 1) := by decide +kernel
theorem d1_8 : decode prog_6_method_1_code 8 = .ok (.invokevirtual 7, 3) := by decide +kernel
theorem d1_11 : decode prog_6_method_1_code 11 = .ok (.return_, 1) := by decide +kernel
theorem ef_1 (m : MethodId) (x0 : Addr) (x1 : Addr) (x2 : Int32) (x3 : Int32) : entryFrame m #[(.ref x0), (.ref x1), (.int x2), (.int x3)] 4 = mkF m 0 #[.val (.ref x0), .val (.ref x1), .val (.int x2), .val (.int x3)] [] := by first | (simp [entryFrame, mkF, argsToLocals, Value.category]; done) | rfl
theorem pd__ABII_V_7 : parseMethodDescriptor "([BII)V" = some ⟨[(.array .byte), .int, .int], none⟩ := by decide +kernel
def Q1 (Z : State) (a1 : Addr) (a2 : Addr) (p3 : Int32) (p4 : Int32) (u0 : Value) (u1 : Value) (u2 : Value) (u3 : Value) (u4 : Value) (h0 : Heap) (n0 : Nat) (v : Option Value) (h : Heap) (L : List Loc) : Prop := v = none ∧ Fr n0 L ∧ Keep h0 h [a1] ∧ Exa Z h a1 "com/example/hereafter/hereafter/io/AsciiText" ∧ Fld Z h a1 "com/example/hereafter/hereafter/io/AsciiText" "bytes" "[B" (.ref a2) ∧ Fld Z h a1 "com/example/hereafter/hereafter/io/AsciiText" "from" "I" (.int p3) ∧ Fld Z h a1 "com/example/hereafter/hereafter/io/AsciiText" "to" "I" (.int p4) ∧ Fld Z h a1 "com/example/hereafter/hereafter/io/AsciiText" "hashed" "Z" (.int (0 : Int32)) ∧ Fld Z h a1 "com/example/hereafter/hereafter/io/AsciiText" "hash" "I" u4
set_option maxRecDepth 65536 in
set_option maxHeartbeats 40000000 in
theorem rm1 (l : Launch) (Z : State) (a0 : Array Value) (hw : ∀ d ∈ tables_1, d.before a0 Z = true) (ws : List Jvm.Cond) (a1 : Addr) (a2 : Addr) (p3 : Int32) (p4 : Int32) (u0 : Value) (u1 : Value) (u2 : Value) (u3 : Value) (u4 : Value) (h0 : Heap) (n0 : Nat) (Z0 : n0 ≤ h0.size) (E0 : Exa Z h0 a1 "com/example/hereafter/hereafter/io/AsciiText") (F0_0 : Fld Z h0 a1 "com/example/hereafter/hereafter/io/AsciiText" "bytes" "[B" u0) (F0_1 : Fld Z h0 a1 "com/example/hereafter/hereafter/io/AsciiText" "from" "I" u1) (F0_2 : Fld Z h0 a1 "com/example/hereafter/hereafter/io/AsciiText" "to" "I" u2) (F0_3 : Fld Z h0 a1 "com/example/hereafter/hereafter/io/AsciiText" "hashed" "Z" u3) (F0_4 : Fld Z h0 a1 "com/example/hereafter/hereafter/io/AsciiText" "hash" "I" u4) (g_a1 : n0 ≤ a1) :
    MetFree l (⟨"com/example/hereafter/hereafter/io/AsciiText", "<init>", "([BII)V"⟩ : MethodName) (head1 (Jvm.Cond.code (⟨"com/example/hereafter/hereafter/io/AsciiText", "<init>", "([BII)V"⟩ : MethodName) prog_6_method_1_code 4 none :: ws) ({ frames := 1, cells := 0, slots := 0, locals := 15 } : Room)) (fun a U => a = #[(.ref a1), (.ref a2), (.int p3), (.int p4)] ∧ Z.Warmed39 U.vm ∧ U.heap = h0) (fun _ _ _ _ _ => True) (fun _ U o U' => ∃ v L, o = .returned v ∧ Q1 Z a1 a2 p3 p4 u0 u1 u2 u3 u4 h0 n0 v U'.heap L ∧ FrameEnd U o U' L ({ frames := 1, cells := 0, slots := 0, locals := 15 } : Room).cells ({ frames := 1, cells := 0, slots := 0, locals := 15 } : Room).slots) := by
  refine MetFree.of_bodySF (plainFor_of_name pn_AsciiText) hisR ?_
  intro p e s m args below meth c s₁ Bd hml0 hP hK
  obtain ⟨rfl, hZ, hh⟩ := hP
  have hx := Bd.exec
  have hby := Bd.bytes
  have hml : c.maxLocals = 4 := hml0
  have hown : s.vm.findClass "com/example/hereafter/hereafter/io/AsciiText" = some m.cls := findClass_of_methodNamed Bd.named
  have hnm := (name_of_methodNamed Bd.named Bd.method).1
  have X0 : Stand p l e ({ frames := 1, cells := 0, slots := 0, locals := 15 } : Room) s m #[(.ref a1), (.ref a2), (.int p3), (.int p4)] below meth c s₁ [] 0 0 := Stand.of_body Bd
  have e0 : s₁.heap = h0 := by rw [← hh, Bd.state]; rfl
  have N0 := Fr.nil n0
  refine Gd.out (Gd.st (fun t k => castTop (ef_1 m a1 a2 p3 p4) k) ?_)
  show Gd p.tables e below _ (s₁.setTop (mkF m 0 #[.val (.ref a1), .val (.ref a2), .val (.int p3), .val (.int p4)] []))
  refine Gd.st (fun _ k => XS.aloadN X0.here hx rfl (hb hby d1_0) rfl rfl k) ?_
  show Gd p.tables e below _ (s₁.setTop (mkF m 1 #[.val (.ref a1), .val (.ref a2), .val (.int p3), .val (.int p4)] [(.ref a1)]))
  obtain ⟨T1, X1, e1, st1⟩ := initO X0 hx hZ hown (hw _ (List.mem_of_getElem? (i := 7) rfl)) (hw _ (List.mem_of_getElem? (i := 8) rfl)) (hw _ (List.mem_of_getElem? (i := 9) rfl)) e0 (g := (mkF m 1 #[.val (.ref a1), .val (.ref a2), .val (.int p3), .val (.int p4)] [(.ref a1)])) rfl (by rw [hml]; rfl) rfl (hb hby d1_1) (by decide) (W := 0) (by show 2 * 0 + _ ≤ _; exact Nat.le_of_eq rfl) (by decide)
  refine Gd.st st1 ?_
  show Gd p.tables e below _ (T1.setTop (mkF m 4 #[.val (.ref a1), .val (.ref a2), .val (.int p3), .val (.int p4)] []))
  refine Gd.st (fun _ k => XS.aloadN X1.here hx rfl (hb hby d1_4) rfl rfl k) ?_
  show Gd p.tables e below _ (T1.setTop (mkF m 5 #[.val (.ref a1), .val (.ref a2), .val (.int p3), .val (.int p4)] [(.ref a1)]))
  refine Gd.st (fun _ k => XS.aloadN X1.here hx rfl (hb hby d1_5) rfl rfl k) ?_
  show Gd p.tables e below _ (T1.setTop (mkF m 6 #[.val (.ref a1), .val (.ref a2), .val (.int p3), .val (.int p4)] [(.ref a2), (.ref a1)]))
  refine Gd.st (fun _ k => XS.iloadN X1.here hx rfl (hb hby d1_6) rfl k) ?_
  show Gd p.tables e below _ (T1.setTop (mkF m 7 #[.val (.ref a1), .val (.ref a2), .val (.int p3), .val (.int p4)] [(.int p3), (.ref a2), (.ref a1)]))
  refine Gd.st (fun _ k => XS.iloadN X1.here hx rfl (hb hby d1_7) rfl k) ?_
  show Gd p.tables e below _ (T1.setTop (mkF m 8 #[.val (.ref a1), .val (.ref a2), .val (.int p3), .val (.int p4)] [(.int p4), (.int p3), (.ref a2), (.ref a1)]))
  obtain ⟨cq2, kq2, q2a, q2b, q2c⟩ := isOf hZ e1 E0
  obtain ⟨_, _, ⟨T2, L2, k2, n2⟩, -, X2, ⟨Lc2, hQ2, l2, y2, z2⟩, st2⟩ := X1.virtualBack hx (y := (⟨"com/example/hereafter/hereafter/io/AsciiText", "set", "([BII)V"⟩ : MethodName)) (z := (⟨"com/example/hereafter/hereafter/io/AsciiText", "set", "([BII)V"⟩ : MethodName)) hown (mvT hZ (hw _ (List.mem_of_getElem? (i := 10) rfl))) (mvT hZ (hw _ (List.mem_of_getElem? (i := 11) rfl))) (notFace_of_selects (args := #[]) (mvT hZ (hw _ (List.mem_of_getElem? (i := 13) rfl)))) (mvT hZ (hw _ (List.mem_of_getElem? (i := 13) rfl))) (mvT hZ (hw _ (List.mem_of_getElem? (i := 12) rfl))) (by decide) (backOf (W := 0) (rm3 l Z a0 hw [] a1 a2 p3 p4 u0 u1 u2 u3 u4 h0 n0 Z0 E0 F0_0 F0_1 F0_2 F0_3 F0_4 g_a1) hZ (hw _ (List.mem_of_getElem? (i := 14) rfl)) (hw _ (List.mem_of_getElem? (i := 3) rfl)) (by decide) (by decide)) q2a q2c (g := (mkF m 8 #[.val (.ref a1), .val (.ref a2), .val (.int p3), .val (.int p4)] [(.int p4), (.int p3), (.ref a2), (.ref a1)])) rfl (by rw [hml]; rfl) (Steps.refl _) (argsL := [(.ref a2), (.int p3), (.int p4)]) (rest := []) (lenOf pd__ABII_V_7 rfl) rfl (by show 2 * 0 + _ ≤ _; exact Nat.le_of_eq rfl) (hb hby d1_8) (fun _ _ => ⟨rfl, e1, (by decide : 0 + 0 ≤ _), (by decide : 0 + 0 ≤ _)⟩)
  dsimp only [Pt.U, Pt.locs, Pt.cells, Pt.slots] at X2 l2 y2 z2 st2 hQ2
  simp only [Nat.add_zero, Nat.zero_add, Nat.reduceAdd] at y2 z2
  subst y2 z2
  obtain ⟨rfl, N2q, K2, A2, F2_0, F2_1, F2_2, F2_3, F2_4⟩ := hQ2
  have N2 : Fr n0 L2 := by rw [l2]; exact Fr.app N0 N2q
  clear l2
  refine Gd.st (fun _ k => st2.trans k) ?_
  have Z3 : n0 ≤ T2.heap.size := Nat.le_trans Z0 K2.1
  have K4 : Keep h0 T2.heap [a1] := (Keep.refl h0 [a1]).trans K2 (allS (Or.inl (List.mem_of_getElem? (i := 0) rfl)) all0)
  show Gd p.tables e below _ (T2.setTop (mkF m 11 #[.val (.ref a1), .val (.ref a2), .val (.int p3), .val (.int p4)] []))
  obtain ⟨fs, hr, hrun, hended, hW, hsame⟩ := X2.leave (v := none) (fun _ => rfl) Bd.notSynchronized
  refine Gd.mk (o := .returned (none)) (X2.returnOut hx Bd.returns (hb hby d1_11) hr) ⟨hrun, hended, _, _, rfl, ?_, ⟨_, rfl⟩, hW, hsame.mono (by decide) (by decide)⟩
  show Q1 Z a1 a2 p3 p4 u0 u1 u2 u3 u4 h0 n0 _ T2.heap _
  exact ⟨rfl, N2, K4, A2, F2_0, F2_1, F2_2, F2_3, F2_4⟩
theorem d4_0 : decode prog_6_method_10_code 0 = .ok (.aload_n 0, 1) := by decide +kernel
theorem d4_1 : decode prog_6_method_10_code 1 = .ok (.getfield 24, 3) := by decide +kernel
theorem d4_4 : decode prog_6_method_10_code 4 = .ok (.ifCond .ne 46, 3) := by decide +kernel
theorem d4_7 : decode prog_6_method_10_code 7 = .ok (.iconst 0, 1) := by decide +kernel
theorem d4_8 : decode prog_6_method_10_code 8 = .ok (.istore_n 1, 1) := by decide +kernel
theorem d4_9 : decode prog_6_method_10_code 9 = .ok (.aload_n 0, 1) := by decide +kernel
theorem d4_10 : decode prog_6_method_10_code 10 = .ok (.getfield 17, 3) := by decide +kernel
theorem d4_13 : decode prog_6_method_10_code 13 = .ok (.istore_n 2, 1) := by decide +kernel
theorem d4_14 : decode prog_6_method_10_code 14 = .ok (.iload_n 2, 1) := by decide +kernel
theorem d4_15 : decode prog_6_method_10_code 15 = .ok (.aload_n 0, 1) := by decide +kernel
theorem d4_16 : decode prog_6_method_10_code 16 = .ok (.getfield 21, 3) := by decide +kernel
theorem d4_19 : decode prog_6_method_10_code 19 = .ok (.if_icmp .ge 21, 3) := by decide +kernel
theorem d4_22 : decode prog_6_method_10_code 22 = .ok (.bipush 31, 2) := by decide +kernel
theorem d4_24 : decode prog_6_method_10_code 24 = .ok (.iload_n 1, 1) := by decide +kernel
theorem d4_25 : decode prog_6_method_10_code 25 = .ok (.imul, 1) := by decide +kernel
theorem d4_26 : decode prog_6_method_10_code 26 = .ok (.aload_n 0, 1) := by decide +kernel
theorem d4_27 : decode prog_6_method_10_code 27 = .ok (.getfield 13, 3) := by decide +kernel
theorem d4_30 : decode prog_6_method_10_code 30 = .ok (.iload_n 2, 1) := by decide +kernel
theorem d4_31 : decode prog_6_method_10_code 31 = .ok (.baload, 1) := by decide +kernel
theorem d4_32 : decode prog_6_method_10_code 32 = .ok (.iadd, 1) := by decide +kernel
theorem d4_33 : decode prog_6_method_10_code 33 = .ok (.istore_n 1, 1) := by decide +kernel
theorem d4_34 : decode prog_6_method_10_code 34 = .ok (.iinc 2 1, 3) := by decide +kernel
theorem d4_37 : decode prog_6_method_10_code 37 = .ok (.goto (-23), 3) := by decide +kernel
theorem d4_40 : decode prog_6_method_10_code 40 = .ok (.aload_n 0, 1) := by decide +kernel
theorem d4_41 : decode prog_6_method_10_code 41 = .ok (.iload_n 1, 1) := by decide +kernel
theorem d4_42 : decode prog_6_method_10_code 42 = .ok (.putfield 56, 3) := by decide +kernel
theorem d4_45 : decode prog_6_method_10_code 45 = .ok (.aload_n 0, 1) := by decide +kernel
theorem d4_46 : decode prog_6_method_10_code 46 = .ok (.iconst 1, 1) := by decide +kernel
theorem d4_47 : decode prog_6_method_10_code 47 = .ok (.putfield 24, 3) := by decide +kernel
theorem d4_50 : decode prog_6_method_10_code 50 = .ok (.aload_n 0, 1) := by decide +kernel
theorem d4_51 : decode prog_6_method_10_code 51 = .ok (.getfield 56, 3) := by decide +kernel
theorem d4_54 : decode prog_6_method_10_code 54 = .ok (.ireturn, 1) := by decide +kernel
theorem ef_4 (m : MethodId) (x0 : Addr) : entryFrame m #[(.ref x0)] 3 = mkF m 0 #[.val (.ref x0), .unset, .unset] [] := by first | (simp [entryFrame, mkF, argsToLocals, Value.category]; done) | rfl
def QW (Z : State) (a1 : Addr) (p5 : Int32) (h0 : Heap) (n0 : Nat) (v : Option Value) (h : Heap) (L : List Loc) : Prop := v = some (.int p5) ∧ Fr n0 L ∧ h = h0
set_option maxRecDepth 65536 in
set_option maxHeartbeats 40000000 in
theorem rmW (l : Launch) (Z : State) (a0 : Array Value) (hw : ∀ d ∈ tables_1, d.before a0 Z = true) (ws : List Jvm.Cond) (a1 : Addr) (p5 : Int32) (h0 : Heap) (n0 : Nat) (Z0 : n0 ≤ h0.size) (F0_0 : Fld Z h0 a1 "com/example/hereafter/hereafter/io/AsciiText" "hashed" "Z" (.int (1 : Int32))) (F0_1 : Fld Z h0 a1 "com/example/hereafter/hereafter/io/AsciiText" "hash" "I" (.int p5)) :
    MetFree l (⟨"com/example/hereafter/hereafter/io/AsciiText", "hashCode", "()I"⟩ : MethodName) (head1 (Jvm.Cond.code (⟨"com/example/hereafter/hereafter/io/AsciiText", "hashCode", "()I"⟩ : MethodName) prog_6_method_10_code 3 (some .int) :: ws) ({ frames := 0, cells := 0, slots := 0, locals := 0 } : Room)) (fun a U => a = #[(.ref a1)] ∧ Z.Warmed39 U.vm ∧ U.heap = h0) (fun _ _ _ _ _ => True) (fun _ U o U' => ∃ v L, o = .returned v ∧ QW Z a1 p5 h0 n0 v U'.heap L ∧ FrameEnd U o U' L ({ frames := 0, cells := 0, slots := 0, locals := 0 } : Room).cells ({ frames := 0, cells := 0, slots := 0, locals := 0 } : Room).slots) := by
  refine MetFree.of_bodySF (plainFor_of_name pn_AsciiText) hisR ?_
  intro p e s m args below meth c s₁ Bd hml0 hP hK
  obtain ⟨rfl, hZ, hh⟩ := hP
  have hx := Bd.exec
  have hby := Bd.bytes
  have hml : c.maxLocals = 3 := hml0
  have hown : s.vm.findClass "com/example/hereafter/hereafter/io/AsciiText" = some m.cls := findClass_of_methodNamed Bd.named
  have hnm := (name_of_methodNamed Bd.named Bd.method).1
  have X0 : Stand p l e ({ frames := 0, cells := 0, slots := 0, locals := 0 } : Room) s m #[(.ref a1)] below meth c s₁ [] 0 0 := Stand.of_body Bd
  have e0 : s₁.heap = h0 := by rw [← hh, Bd.state]; rfl
  have N0 := Fr.nil n0
  refine Gd.out (Gd.st (fun t k => castTop (ef_4 m a1) k) ?_)
  show Gd p.tables e below _ (s₁.setTop (mkF m 0 #[.val (.ref a1), .unset, .unset] []))
  refine Gd.st (fun _ k => XS.aloadN X0.here hx rfl (hb hby d4_0) rfl rfl k) ?_
  show Gd p.tables e below _ (s₁.setTop (mkF m 1 #[.val (.ref a1), .unset, .unset] [(.ref a1)]))
  obtain ⟨T1, X1, e1, st1⟩ := getF X0 hx hZ hown (host := "") (Or.inl (hw _ (List.mem_of_getElem? (i := 21) rfl))) Via.refl e0 F0_0 (g := (mkF m 1 #[.val (.ref a1), .unset, .unset] [(.ref a1)])) rfl rfl (hb hby d4_1)
  refine Gd.st st1 ?_
  show Gd p.tables e below _ (T1.setTop (mkF m 4 #[.val (.ref a1), .unset, .unset] [(.int (1 : Int32))]))
  refine Gd.st (fun _ k => XS.ifYes X1.here hx rfl (pc0 := 4) (pc' := 50) rfl (hb hby d4_4) rfl ((if0 _ _).trans (feq (by decide)).2) (by decide) (by decide) k) ?_
  show Gd p.tables e below _ (T1.setTop (mkF m 50 #[.val (.ref a1), .unset, .unset] []))
  refine Gd.st (fun _ k => XS.aloadN X1.here hx rfl (hb hby d4_50) rfl rfl k) ?_
  show Gd p.tables e below _ (T1.setTop (mkF m 51 #[.val (.ref a1), .unset, .unset] [(.ref a1)]))
  obtain ⟨T2, X2, e2, st2⟩ := getF X1 hx hZ hown (host := "") (Or.inl (hw _ (List.mem_of_getElem? (i := 28) rfl))) Via.refl e1 F0_1 (g := (mkF m 51 #[.val (.ref a1), .unset, .unset] [(.ref a1)])) rfl rfl (hb hby d4_51)
  refine Gd.st st2 ?_
  show Gd p.tables e below _ (T2.setTop (mkF m 54 #[.val (.ref a1), .unset, .unset] [(.int p5)]))
  obtain ⟨fs, hr, hrun, hended, hW, hsame⟩ := X2.leave (v := some (.int p5)) (fun h => by rw [Bd.returns] at h; cases h) Bd.notSynchronized
  refine Gd.mk (o := .returned (some (.int p5))) (retI X2 hx Bd.returns (hb hby d4_54) hr) ⟨hrun, hended, _, _, rfl, ?_, ⟨_, rfl⟩, hW, hsame.mono (by decide) (by decide)⟩
  show QW Z a1 p5 h0 n0 _ T2.heap _
  rw [e2]
  exact ⟨rfl, N0, rfl⟩
set_option maxRecDepth 65536 in
set_option maxHeartbeats 40000000 in
theorem lpH {p : Program} {l : Launch} {e : Env} {R : Room} {s : State} {m : MethodId} {args : Array Value} {below : List Frame} {meth : Method} {c : Code} {locs : List Loc} {cells slots : Nat} {Z : State} {a0 : Array Value} {h0 : Heap} {P : State → Outcome → Prop} (a1 a2 : Addr) (p4 : Int32) (k1 : ClassId) (f1 : Nat → Int32) (hx : p.tables.exec = Jvm.exec) (hZ : Z.Warmed39 s.vm) (hw : ∀ d ∈ tables_1, d.before a0 Z = true) (hby : c.code = prog_6_method_10_code) (hml : c.maxLocals = 3) (hown : s.vm.findClass "com/example/hereafter/hereafter/io/AsciiText" = some m.cls) (Fb : Fld Z h0 a1 "com/example/hereafter/hereafter/io/AsciiText" "bytes" "[B" (.ref a2)) (Ft : Fld Z h0 a1 "com/example/hereafter/hereafter/io/AsciiText" "to" "I" (.int p4)) (V0 : Arv Z h0 a2 k1 .byte (5 : Int32) (own_vs f1) (.int (0 : Int32))) (h8 : p4.toInt ≤ 5) : ∀ (k : Nat) (T0 : State) (X0 : Stand p l e R s m args below meth c T0 locs cells slots) (e0 : T0.heap = h0) (i hh : Int32), 0 ≤ i.toInt → i.toInt + k = p4.toInt → (∀ T1, Stand p l e R s m args below meth c T1 locs cells slots → T1.heap = h0 → Gd p.tables e below P (T1.setTop (mkF m 40 #[.val (.ref a1), .val (.int (own_rh f1 i.toNatClampNeg k hh)), .val (.int p4)] []))) → Gd p.tables e below P (T0.setTop (mkF m 14 #[.val (.ref a1), .val (.int hh), .val (.int i)] [])) := by
  intro k
  induction k with
  | zero =>
    intro T0 X0 e0 i hh h1 h2 J
    obtain rfl : i = p4 := Int32.toInt_inj.mp (by omega)
    refine Gd.st (fun _ k => XS.iloadN X0.here hx rfl (hb hby d4_14) rfl k) ?_
    show Gd p.tables e below _ (T0.setTop (mkF m 15 #[.val (.ref a1), .val (.int hh), .val (.int i)] [(.int i)]))
    refine Gd.st (fun _ k => XS.aloadN X0.here hx rfl (hb hby d4_15) rfl rfl k) ?_
    show Gd p.tables e below _ (T0.setTop (mkF m 16 #[.val (.ref a1), .val (.int hh), .val (.int i)] [(.ref a1), (.int i)]))
    obtain ⟨T1, X1, e1, st1⟩ := getF X0 hx hZ hown (host := "") (Or.inl (hw _ (List.mem_of_getElem? (i := 19) rfl))) Via.refl e0 Ft (g := (mkF m 16 #[.val (.ref a1), .val (.int hh), .val (.int i)] [(.ref a1), (.int i)])) rfl rfl (hb hby d4_16)
    refine Gd.st st1 ?_
    show Gd p.tables e below _ (T1.setTop (mkF m 19 #[.val (.ref a1), .val (.int hh), .val (.int i)] [(.int i), (.int i)]))
    refine Gd.st (fun _ k => XS.icmpYes X1.here hx rfl (pc0 := 19) (pc' := 40) rfl (hb hby d4_19) rfl (flt Int32.lt_irrefl).2.1 (by decide) (by decide) k) ?_
    show Gd p.tables e below _ (T1.setTop (mkF m 40 #[.val (.ref a1), .val (.int hh), .val (.int i)] []))
    exact J _ X1 e1
  | succ k ih =>
    intro T0 X0 e0 i hh h1 h2 J
    have hlt : i < p4 := by rw [Int32.lt_iff_toInt_lt]; omega
    have hi1 : (i + (1 : Int32)).toInt = i.toInt + 1 := by
      have q1 := c_iadd i (1 : Int32)
      have q2 := rng32 (i + (1 : Int32))
      rw [show (1 : Int32).toInt = 1 from rfl] at q1
      omega
    refine Gd.st (fun _ k => XS.iloadN X0.here hx rfl (hb hby d4_14) rfl k) ?_
    show Gd p.tables e below _ (T0.setTop (mkF m 15 #[.val (.ref a1), .val (.int hh), .val (.int i)] [(.int i)]))
    refine Gd.st (fun _ k => XS.aloadN X0.here hx rfl (hb hby d4_15) rfl rfl k) ?_
    show Gd p.tables e below _ (T0.setTop (mkF m 16 #[.val (.ref a1), .val (.int hh), .val (.int i)] [(.ref a1), (.int i)]))
    obtain ⟨T1, X1, e1, st1⟩ := getF X0 hx hZ hown (host := "") (Or.inl (hw _ (List.mem_of_getElem? (i := 19) rfl))) Via.refl e0 Ft (g := (mkF m 16 #[.val (.ref a1), .val (.int hh), .val (.int i)] [(.ref a1), (.int i)])) rfl rfl (hb hby d4_16)
    refine Gd.st st1 ?_
    show Gd p.tables e below _ (T1.setTop (mkF m 19 #[.val (.ref a1), .val (.int hh), .val (.int i)] [(.int p4), (.int i)]))
    refine Gd.st (fun _ k => XS.icmpNo X1.here hx rfl (hb hby d4_19) rfl (tlt hlt).2.1 k) ?_
    show Gd p.tables e below _ (T1.setTop (mkF m 22 #[.val (.ref a1), .val (.int hh), .val (.int i)] []))
    refine Gd.st (fun _ k => XS.bipush X1.here hx rfl (hb hby d4_22) k) ?_
    show Gd p.tables e below _ (T1.setTop (mkF m 24 #[.val (.ref a1), .val (.int hh), .val (.int i)] [(.int (31 : Int32))]))
    refine Gd.st (fun _ k => XS.iloadN X1.here hx rfl (hb hby d4_24) rfl k) ?_
    show Gd p.tables e below _ (T1.setTop (mkF m 25 #[.val (.ref a1), .val (.int hh), .val (.int i)] [(.int hh), (.int (31 : Int32))]))
    refine Gd.st (fun _ k => XS.imul X1.here hx rfl (hb hby d4_25) rfl k) ?_
    show Gd p.tables e below _ (T1.setTop (mkF m 26 #[.val (.ref a1), .val (.int hh), .val (.int i)] [(.int ((31 : Int32) * hh))]))
    refine Gd.st (fun _ k => XS.aloadN X1.here hx rfl (hb hby d4_26) rfl rfl k) ?_
    show Gd p.tables e below _ (T1.setTop (mkF m 27 #[.val (.ref a1), .val (.int hh), .val (.int i)] [(.ref a1), (.int ((31 : Int32) * hh))]))
    obtain ⟨T2, X2, e2, st2⟩ := getF X1 hx hZ hown (host := "") (Or.inl (hw _ (List.mem_of_getElem? (i := 15) rfl))) Via.refl e1 Fb (g := (mkF m 27 #[.val (.ref a1), .val (.int hh), .val (.int i)] [(.ref a1), (.int ((31 : Int32) * hh))])) rfl rfl (hb hby d4_27)
    refine Gd.st st2 ?_
    show Gd p.tables e below _ (T2.setTop (mkF m 30 #[.val (.ref a1), .val (.int hh), .val (.int i)] [(.ref a2), (.int ((31 : Int32) * hh))]))
    refine Gd.st (fun _ k => XS.iloadN X2.here hx rfl (hb hby d4_30) rfl k) ?_
    show Gd p.tables e below _ (T2.setTop (mkF m 31 #[.val (.ref a1), .val (.int hh), .val (.int i)] [(.int i), (.ref a2), (.int ((31 : Int32) * hh))]))
    obtain ⟨cl_3, Ar_3, q_3, S_3, N_3, H_3, G_3⟩ := id V0
    have hin_3 : ¬ (i < 0 ∨ cl_3.slots.size ≤ (i).toNatClampNeg) := inb_of S_3 (own_inb _ (by omega))
    have hat_3 : cl_3.slots[(i).toNatClampNeg]? = some (.int (f1 (i).toNatClampNeg)) := H_3.at hin_3 (own_get _ _ (own_lt _ (own_inb _ (by omega))))
    refine Gd.st (fun _ k => X2.baloadBytes hx (j := i) (v := (.int (f1 (i).toNatClampNeg))) (by rw [e2]; exact Ar_3.1) (State.isArrayOf_alike hZ.alike Ar_3.2.1) Ar_3.2.2 hin_3 hat_3 (g := (mkF m 31 #[.val (.ref a1), .val (.int hh), .val (.int i)] [(.int i), (.ref a2), (.int ((31 : Int32) * hh))])) rfl rfl (hb hby d4_31) _ k) ?_
    show Gd p.tables e below _ (T2.setTop (mkF m 32 #[.val (.ref a1), .val (.int hh), .val (.int i)] [(.int (f1 (i).toNatClampNeg)), (.int ((31 : Int32) * hh))]))
    refine Gd.st (fun _ k => XS.iadd X2.here hx rfl (hb hby d4_32) rfl k) ?_
    show Gd p.tables e below _ (T2.setTop (mkF m 33 #[.val (.ref a1), .val (.int hh), .val (.int i)] [(.int (((31 : Int32) * hh) + (f1 (i).toNatClampNeg)))]))
    refine Gd.st (fun _ k => XS.istoreN X2.here hx rfl (hb hby d4_33) rfl (l' := #[.val (.ref a1), .val (.int (((31 : Int32) * hh) + (f1 (i).toNatClampNeg))), .val (.int i)]) rfl k) ?_
    show Gd p.tables e below _ (T2.setTop (mkF m 34 #[.val (.ref a1), .val (.int (((31 : Int32) * hh) + (f1 (i).toNatClampNeg))), .val (.int i)] []))
    refine Gd.st (fun _ k => XS.iinc X2.here hx rfl (hb hby d4_34) rfl (l' := #[.val (.ref a1), .val (.int (((31 : Int32) * hh) + (f1 (i).toNatClampNeg))), .val (.int (i + (1 : Int32)))]) rfl k) ?_
    show Gd p.tables e below _ (T2.setTop (mkF m 37 #[.val (.ref a1), .val (.int (((31 : Int32) * hh) + (f1 (i).toNatClampNeg))), .val (.int (i + (1 : Int32)))] []))
    refine Gd.st (fun _ k => XS.goto X2.here hx rfl (pc0 := 37) (pc' := 14) rfl (hb hby d4_37) (by decide) (by decide) k) ?_
    show Gd p.tables e below _ (T2.setTop (mkF m 14 #[.val (.ref a1), .val (.int (((31 : Int32) * hh) + (f1 (i).toNatClampNeg))), .val (.int (i + (1 : Int32)))] []))
    refine ih _ X2 e2 _ _ (by omega) (by omega) ?_
    rw [show (i + (1 : Int32)).toNatClampNeg = i.toNatClampNeg + 1 from by unfold Int32.toNatClampNeg; omega]
    exact J
def QH (Z : State) (a1 : Addr) (a2 : Addr) (p3 : Int32) (p4 : Int32) (u4 : Value) (k1 : ClassId) (f1 : Nat → Int32) (n1 : Nat) (h0 : Heap) (n0 : Nat) (v : Option Value) (h : Heap) (L : List Loc) : Prop := v = some (.int (own_rh f1 p3.toNatClampNeg n1 (0 : Int32))) ∧ Fr n0 L ∧ Keep h0 h [a1] ∧ Exa Z h a1 "com/example/hereafter/hereafter/io/AsciiText" ∧ Fld Z h a1 "com/example/hereafter/hereafter/io/AsciiText" "bytes" "[B" (.ref a2) ∧ Fld Z h a1 "com/example/hereafter/hereafter/io/AsciiText" "from" "I" (.int p3) ∧ Fld Z h a1 "com/example/hereafter/hereafter/io/AsciiText" "to" "I" (.int p4) ∧ Fld Z h a1 "com/example/hereafter/hereafter/io/AsciiText" "hashed" "Z" (.int (1 : Int32)) ∧ Fld Z h a1 "com/example/hereafter/hereafter/io/AsciiText" "hash" "I" (.int (own_rh f1 p3.toNatClampNeg n1 (0 : Int32)))
set_option maxRecDepth 65536 in
set_option maxHeartbeats 40000000 in
theorem rmH (l : Launch) (Z : State) (a0 : Array Value) (hw : ∀ d ∈ tables_1, d.before a0 Z = true) (ws : List Jvm.Cond) (a1 : Addr) (a2 : Addr) (p3 : Int32) (p4 : Int32) (u4 : Value) (k1 : ClassId) (f1 : Nat → Int32) (n1 : Nat) (h0 : Heap) (n0 : Nat) (Z0 : n0 ≤ h0.size) (E0 : Exa Z h0 a1 "com/example/hereafter/hereafter/io/AsciiText") (F0_0 : Fld Z h0 a1 "com/example/hereafter/hereafter/io/AsciiText" "bytes" "[B" (.ref a2)) (F0_1 : Fld Z h0 a1 "com/example/hereafter/hereafter/io/AsciiText" "from" "I" (.int p3)) (F0_2 : Fld Z h0 a1 "com/example/hereafter/hereafter/io/AsciiText" "to" "I" (.int p4)) (F0_3 : Fld Z h0 a1 "com/example/hereafter/hereafter/io/AsciiText" "hashed" "Z" (.int (0 : Int32))) (F0_4 : Fld Z h0 a1 "com/example/hereafter/hereafter/io/AsciiText" "hash" "I" u4) (V0 : Arv Z h0 a2 k1 .byte (5 : Int32) (own_vs f1) (.int (0 : Int32))) (ne0 : a2 ≠ a1) (g_a1 : n0 ≤ a1) (hbd : 0 ≤ p3.toInt ∧ p3.toInt + n1 = p4.toInt ∧ p4.toInt ≤ 5) :
    MetFree l (⟨"com/example/hereafter/hereafter/io/AsciiText", "hashCode", "()I"⟩ : MethodName) (head1 (Jvm.Cond.code (⟨"com/example/hereafter/hereafter/io/AsciiText", "hashCode", "()I"⟩ : MethodName) prog_6_method_10_code 3 (some .int) :: ws) ({ frames := 0, cells := 0, slots := 0, locals := 0 } : Room)) (fun a U => a = #[(.ref a1)] ∧ Z.Warmed39 U.vm ∧ U.heap = h0) (fun _ _ _ _ _ => True) (fun _ U o U' => ∃ v L, o = .returned v ∧ QH Z a1 a2 p3 p4 u4 k1 f1 n1 h0 n0 v U'.heap L ∧ FrameEnd U o U' L ({ frames := 0, cells := 0, slots := 0, locals := 0 } : Room).cells ({ frames := 0, cells := 0, slots := 0, locals := 0 } : Room).slots) := by
  refine MetFree.of_bodySF (plainFor_of_name pn_AsciiText) hisR ?_
  intro p e s m args below meth c s₁ Bd hml0 hP hK
  obtain ⟨rfl, hZ, hh⟩ := hP
  have hx := Bd.exec
  have hby := Bd.bytes
  have hml : c.maxLocals = 3 := hml0
  have hown : s.vm.findClass "com/example/hereafter/hereafter/io/AsciiText" = some m.cls := findClass_of_methodNamed Bd.named
  have hnm := (name_of_methodNamed Bd.named Bd.method).1
  have X0 : Stand p l e ({ frames := 0, cells := 0, slots := 0, locals := 0 } : Room) s m #[(.ref a1)] below meth c s₁ [] 0 0 := Stand.of_body Bd
  have e0 : s₁.heap = h0 := by rw [← hh, Bd.state]; rfl
  have N0 := Fr.nil n0
  refine Gd.out (Gd.st (fun t k => castTop (ef_4 m a1) k) ?_)
  show Gd p.tables e below _ (s₁.setTop (mkF m 0 #[.val (.ref a1), .unset, .unset] []))
  refine Gd.st (fun _ k => XS.aloadN X0.here hx rfl (hb hby d4_0) rfl rfl k) ?_
  show Gd p.tables e below _ (s₁.setTop (mkF m 1 #[.val (.ref a1), .unset, .unset] [(.ref a1)]))
  obtain ⟨T1, X1, e1, st1⟩ := getF X0 hx hZ hown (host := "") (Or.inl (hw _ (List.mem_of_getElem? (i := 21) rfl))) Via.refl e0 F0_3 (g := (mkF m 1 #[.val (.ref a1), .unset, .unset] [(.ref a1)])) rfl rfl (hb hby d4_1)
  refine Gd.st st1 ?_
  show Gd p.tables e below _ (T1.setTop (mkF m 4 #[.val (.ref a1), .unset, .unset] [(.int (0 : Int32))]))
  refine Gd.st (fun _ k => XS.ifNo X1.here hx rfl (hb hby d4_4) rfl ((if0 _ _).trans (teq (by decide)).2) k) ?_
  show Gd p.tables e below _ (T1.setTop (mkF m 7 #[.val (.ref a1), .unset, .unset] []))
  refine Gd.st (fun _ k => XS.iconst X1.here hx rfl (hb hby d4_7) k) ?_
  show Gd p.tables e below _ (T1.setTop (mkF m 8 #[.val (.ref a1), .unset, .unset] [(.int (0 : Int32))]))
  refine Gd.st (fun _ k => XS.istoreN X1.here hx rfl (hb hby d4_8) rfl (l' := #[.val (.ref a1), .val (.int (0 : Int32)), .unset]) rfl k) ?_
  show Gd p.tables e below _ (T1.setTop (mkF m 9 #[.val (.ref a1), .val (.int (0 : Int32)), .unset] []))
  refine Gd.st (fun _ k => XS.aloadN X1.here hx rfl (hb hby d4_9) rfl rfl k) ?_
  show Gd p.tables e below _ (T1.setTop (mkF m 10 #[.val (.ref a1), .val (.int (0 : Int32)), .unset] [(.ref a1)]))
  obtain ⟨T2, X2, e2, st2⟩ := getF X1 hx hZ hown (host := "") (Or.inl (hw _ (List.mem_of_getElem? (i := 17) rfl))) Via.refl e1 F0_1 (g := (mkF m 10 #[.val (.ref a1), .val (.int (0 : Int32)), .unset] [(.ref a1)])) rfl rfl (hb hby d4_10)
  refine Gd.st st2 ?_
  show Gd p.tables e below _ (T2.setTop (mkF m 13 #[.val (.ref a1), .val (.int (0 : Int32)), .unset] [(.int p3)]))
  refine Gd.st (fun _ k => XS.istoreN X2.here hx rfl (hb hby d4_13) rfl (l' := #[.val (.ref a1), .val (.int (0 : Int32)), .val (.int p3)]) rfl k) ?_
  show Gd p.tables e below _ (T2.setTop (mkF m 14 #[.val (.ref a1), .val (.int (0 : Int32)), .val (.int p3)] []))
  refine lpH a1 a2 p4 k1 f1 hx hZ hw hby hml hown F0_0 F0_2 V0 hbd.2.2 n1 _ X2 e2 p3 _ hbd.1 hbd.2.1 (fun T9 X9 e9 => ?_)
  show Gd p.tables e below _ (T9.setTop (mkF m 40 #[.val (.ref a1), .val (.int (own_rh f1 p3.toNatClampNeg n1 (0 : Int32))), .val (.int p4)] []))
  refine Gd.st (fun _ k => XS.aloadN X9.here hx rfl (hb hby d4_40) rfl rfl k) ?_
  show Gd p.tables e below _ (T9.setTop (mkF m 41 #[.val (.ref a1), .val (.int (own_rh f1 p3.toNatClampNeg n1 (0 : Int32))), .val (.int p4)] [(.ref a1)]))
  refine Gd.st (fun _ k => XS.iloadN X9.here hx rfl (hb hby d4_41) rfl k) ?_
  show Gd p.tables e below _ (T9.setTop (mkF m 42 #[.val (.ref a1), .val (.int (own_rh f1 p3.toNatClampNeg n1 (0 : Int32))), .val (.int p4)] [(.int (own_rh f1 p3.toNatClampNeg n1 (0 : Int32))), (.ref a1)]))
  obtain ⟨T3, h3, X3, e3, W3, st3⟩ := putF X9 hx hZ hown (host := "") (Or.inl (hw _ (List.mem_of_getElem? (i := 28) rfl))) Via.refl e9 F0_4 E0 (Or.inl (hw _ (List.mem_of_getElem? (i := 29) rfl))) (hw _ (List.mem_of_getElem? (i := 2) rfl)) (ty := .int) (by decide) rfl rfl (g := (mkF m 42 #[.val (.ref a1), .val (.int (own_rh f1 p3.toNatClampNeg n1 (0 : Int32))), .val (.int p4)] [(.int (own_rh f1 p3.toNatClampNeg n1 (0 : Int32))), (.ref a1)])) rfl rfl (hb hby d4_42)
  refine Gd.st st3 ?_
  have Fw3 := F0_4.same W3
  have N3 := Fr.snoc X3 N0 g_a1
  have Z4 : n0 ≤ h3.size := Nat.le_trans Z0 (Keep.of_wr W3).1
  have K5 : Keep h0 h3 [a1] := (Keep.refl h0 [a1]).wr W3 (Or.inl (List.mem_of_getElem? (i := 0) rfl))
  show Gd p.tables e below _ (T3.setTop (mkF m 45 #[.val (.ref a1), .val (.int (own_rh f1 p3.toNatClampNeg n1 (0 : Int32))), .val (.int p4)] []))
  refine Gd.st (fun _ k => XS.aloadN X3.here hx rfl (hb hby d4_45) rfl rfl k) ?_
  show Gd p.tables e below _ (T3.setTop (mkF m 46 #[.val (.ref a1), .val (.int (own_rh f1 p3.toNatClampNeg n1 (0 : Int32))), .val (.int p4)] [(.ref a1)]))
  refine Gd.st (fun _ k => XS.iconst X3.here hx rfl (hb hby d4_46) k) ?_
  show Gd p.tables e below _ (T3.setTop (mkF m 47 #[.val (.ref a1), .val (.int (own_rh f1 p3.toNatClampNeg n1 (0 : Int32))), .val (.int p4)] [(.int (1 : Int32)), (.ref a1)]))
  have q6 := (Fld.other W3 F0_3 (Or.inr (slot_ne (Or.inl (hw _ (List.mem_of_getElem? (i := 22) rfl))) (Or.inl (hw _ (List.mem_of_getElem? (i := 29) rfl))) (by decide) (t := .boolean) (t' := .int) (by decide) (by decide))))
  have q7 := (E0.wr W3)
  obtain ⟨T8, h8, X8, e8, W8, st8⟩ := putFN X3 hx hZ hown (hw _ (List.mem_of_getElem? (i := 21) rfl)) Via.refl e3 q6 q7 (Or.inl (hw _ (List.mem_of_getElem? (i := 22) rfl))) (hw _ (List.mem_of_getElem? (i := 2) rfl)) (ty := .boolean) (v' := (.int (1 : Int32))) (by decide) rfl rfl (g := (mkF m 47 #[.val (.ref a1), .val (.int (own_rh f1 p3.toNatClampNeg n1 (0 : Int32))), .val (.int p4)] [(.int (1 : Int32)), (.ref a1)])) rfl rfl (hb hby d4_47)
  refine Gd.st st8 ?_
  have Fw8 := q6.same W8
  have N8 := Fr.snoc X8 N3 g_a1
  have Z9 : n0 ≤ h8.size := Nat.le_trans Z4 (Keep.of_wr W8).1
  have K10 : Keep h0 h8 [a1] := K5.wr W8 (Or.inl (List.mem_of_getElem? (i := 0) rfl))
  show Gd p.tables e below _ (T8.setTop (mkF m 50 #[.val (.ref a1), .val (.int (own_rh f1 p3.toNatClampNeg n1 (0 : Int32))), .val (.int p4)] []))
  refine Gd.st (fun _ k => XS.aloadN X8.here hx rfl (hb hby d4_50) rfl rfl k) ?_
  show Gd p.tables e below _ (T8.setTop (mkF m 51 #[.val (.ref a1), .val (.int (own_rh f1 p3.toNatClampNeg n1 (0 : Int32))), .val (.int p4)] [(.ref a1)]))
  have q11 := (Fld.other W8 Fw3 (Or.inr (slot_ne (Or.inl (hw _ (List.mem_of_getElem? (i := 29) rfl))) (Or.inl (hw _ (List.mem_of_getElem? (i := 22) rfl))) (by decide) (t := .int) (t' := .boolean) (by decide) (by decide))))
  obtain ⟨T12, X12, e12, st12⟩ := getF X8 hx hZ hown (host := "") (Or.inl (hw _ (List.mem_of_getElem? (i := 28) rfl))) Via.refl e8 q11 (g := (mkF m 51 #[.val (.ref a1), .val (.int (own_rh f1 p3.toNatClampNeg n1 (0 : Int32))), .val (.int p4)] [(.ref a1)])) rfl rfl (hb hby d4_51)
  refine Gd.st st12 ?_
  show Gd p.tables e below _ (T12.setTop (mkF m 54 #[.val (.ref a1), .val (.int (own_rh f1 p3.toNatClampNeg n1 (0 : Int32))), .val (.int p4)] [(.int (own_rh f1 p3.toNatClampNeg n1 (0 : Int32)))]))
  obtain ⟨fs, hr, hrun, hended, hW, hsame⟩ := X12.leave (v := some (.int (own_rh f1 p3.toNatClampNeg n1 (0 : Int32)))) (fun h => by rw [Bd.returns] at h; cases h) Bd.notSynchronized
  have q13 := (q7.wr W8)
  have q14 := (Fld.other W8 (Fld.other W3 F0_0 (Or.inr (slot_ne (Or.inl (hw _ (List.mem_of_getElem? (i := 16) rfl))) (Or.inl (hw _ (List.mem_of_getElem? (i := 29) rfl))) (by decide) (t := (.array .byte)) (t' := .int) (by decide) (by decide)))) (Or.inr (slot_ne (Or.inl (hw _ (List.mem_of_getElem? (i := 16) rfl))) (Or.inl (hw _ (List.mem_of_getElem? (i := 22) rfl))) (by decide) (t := (.array .byte)) (t' := .boolean) (by decide) (by decide))))
  have q15 := (Fld.other W8 (Fld.other W3 F0_1 (Or.inr (slot_ne (Or.inl (hw _ (List.mem_of_getElem? (i := 18) rfl))) (Or.inl (hw _ (List.mem_of_getElem? (i := 29) rfl))) (by decide) (t := .int) (t' := .int) (by decide) (by decide)))) (Or.inr (slot_ne (Or.inl (hw _ (List.mem_of_getElem? (i := 18) rfl))) (Or.inl (hw _ (List.mem_of_getElem? (i := 22) rfl))) (by decide) (t := .int) (t' := .boolean) (by decide) (by decide))))
  have q16 := (Fld.other W8 (Fld.other W3 F0_2 (Or.inr (slot_ne (Or.inl (hw _ (List.mem_of_getElem? (i := 20) rfl))) (Or.inl (hw _ (List.mem_of_getElem? (i := 29) rfl))) (by decide) (t := .int) (t' := .int) (by decide) (by decide)))) (Or.inr (slot_ne (Or.inl (hw _ (List.mem_of_getElem? (i := 20) rfl))) (Or.inl (hw _ (List.mem_of_getElem? (i := 22) rfl))) (by decide) (t := .int) (t' := .boolean) (by decide) (by decide))))
  refine Gd.mk (o := .returned (some (.int (own_rh f1 p3.toNatClampNeg n1 (0 : Int32))))) (retI X12 hx Bd.returns (hb hby d4_54) hr) ⟨hrun, hended, _, _, rfl, ?_, ⟨_, rfl⟩, hW, hsame.mono (by decide) (by decide)⟩
  show QH Z a1 a2 p3 p4 u4 k1 f1 n1 h0 n0 _ T12.heap _
  rw [e12]
  exact ⟨rfl, N8, K10, q13, q14, q15, q16, Fw8, q11⟩
theorem d5_0 : decode method_3_code 0 = .ok (.iconst 0, 1) := by decide +kernel
theorem d5_1 : decode method_3_code 1 = .ok (.istore_n 3, 1) := by decide +kernel
theorem d5_2 : decode method_3_code 2 = .ok (.iload_n 1, 1) := by decide +kernel
theorem d5_3 : decode method_3_code 3 = .ok (.ifCond .gt 17, 3) := by decide +kernel
theorem d5_6 : decode method_3_code 6 = .ok (.iconst 0, 1) := by decide +kernel
theorem d5_7 : decode method_3_code 7 = .ok (.iload_n 2, 1) := by decide +kernel
theorem d5_8 : decode method_3_code 8 = .ok (.if_icmp .ge 12, 3) := by decide +kernel
theorem d5_11 : decode method_3_code 11 = .ok (.bipush 31, 2) := by decide +kernel
theorem d5_13 : decode method_3_code 13 = .ok (.iload_n 3, 1) := by decide +kernel
theorem d5_14 : decode method_3_code 14 = .ok (.imul, 1) := by decide +kernel
theorem d5_15 : decode method_3_code 15 = .ok (.aload_n 0, 1) := by decide +kernel
theorem d5_16 : decode method_3_code 16 = .ok (.iconst 0, 1) := by decide +kernel
theorem d5_17 : decode method_3_code 17 = .ok (.baload, 1) := by decide +kernel
theorem d5_18 : decode method_3_code 18 = .ok (.iadd, 1) := by decide +kernel
theorem d5_19 : decode method_3_code 19 = .ok (.istore_n 3, 1) := by decide +kernel
theorem d5_20 : decode method_3_code 20 = .ok (.iload_n 1, 1) := by decide +kernel
theorem d5_21 : decode method_3_code 21 = .ok (.iconst 1, 1) := by decide +kernel
theorem d5_22 : decode method_3_code 22 = .ok (.if_icmp .gt 17, 3) := by decide +kernel
theorem d5_25 : decode method_3_code 25 = .ok (.iconst 1, 1) := by decide +kernel
theorem d5_26 : decode method_3_code 26 = .ok (.iload_n 2, 1) := by decide +kernel
theorem d5_27 : decode method_3_code 27 = .ok (.if_icmp .ge 12, 3) := by decide +kernel
theorem d5_30 : decode method_3_code 30 = .ok (.bipush 31, 2) := by decide +kernel
theorem d5_32 : decode method_3_code 32 = .ok (.iload_n 3, 1) := by decide +kernel
theorem d5_33 : decode method_3_code 33 = .ok (.imul, 1) := by decide +kernel
theorem d5_34 : decode method_3_code 34 = .ok (.aload_n 0, 1) := by decide +kernel
theorem d5_35 : decode method_3_code 35 = .ok (.iconst 1, 1) := by decide +kernel
theorem d5_36 : decode method_3_code 36 = .ok (.baload, 1) := by decide +kernel
theorem d5_37 : decode method_3_code 37 = .ok (.iadd, 1) := by decide +kernel
theorem d5_38 : decode method_3_code 38 = .ok (.istore_n 3, 1) := by decide +kernel
theorem d5_39 : decode method_3_code 39 = .ok (.iload_n 1, 1) := by decide +kernel
theorem d5_40 : decode method_3_code 40 = .ok (.iconst 2, 1) := by decide +kernel
theorem d5_41 : decode method_3_code 41 = .ok (.if_icmp .gt 17, 3) := by decide +kernel
theorem d5_44 : decode method_3_code 44 = .ok (.iconst 2, 1) := by decide +kernel
theorem d5_45 : decode method_3_code 45 = .ok (.iload_n 2, 1) := by decide +kernel
theorem d5_46 : decode method_3_code 46 = .ok (.if_icmp .ge 12, 3) := by decide +kernel
theorem d5_49 : decode method_3_code 49 = .ok (.bipush 31, 2) := by decide +kernel
theorem d5_51 : decode method_3_code 51 = .ok (.iload_n 3, 1) := by decide +kernel
theorem d5_52 : decode method_3_code 52 = .ok (.imul, 1) := by decide +kernel
theorem d5_53 : decode method_3_code 53 = .ok (.aload_n 0, 1) := by decide +kernel
theorem d5_54 : decode method_3_code 54 = .ok (.iconst 2, 1) := by decide +kernel
theorem d5_55 : decode method_3_code 55 = .ok (.baload, 1) := by decide +kernel
theorem d5_56 : decode method_3_code 56 = .ok (.iadd, 1) := by decide +kernel
theorem d5_57 : decode method_3_code 57 = .ok (.istore_n 3, 1) := by decide +kernel
theorem d5_58 : decode method_3_code 58 = .ok (.iload_n 1, 1) := by decide +kernel
theorem d5_59 : decode method_3_code 59 = .ok (.iconst 3, 1) := by decide +kernel
theorem d5_60 : decode method_3_code 60 = .ok (.if_icmp .gt 17, 3) := by decide +kernel
theorem d5_63 : decode method_3_code 63 = .ok (.iconst 3, 1) := by decide +kernel
theorem d5_64 : decode method_3_code 64 = .ok (.iload_n 2, 1) := by decide +kernel
theorem d5_65 : decode method_3_code 65 = .ok (.if_icmp .ge 12, 3) := by decide +kernel
theorem d5_68 : decode method_3_code 68 = .ok (.bipush 31, 2) := by decide +kernel
theorem d5_70 : decode method_3_code 70 = .ok (.iload_n 3, 1) := by decide +kernel
theorem d5_71 : decode method_3_code 71 = .ok (.imul, 1) := by decide +kernel
theorem d5_72 : decode method_3_code 72 = .ok (.aload_n 0, 1) := by decide +kernel
theorem d5_73 : decode method_3_code 73 = .ok (.iconst 3, 1) := by decide +kernel
theorem d5_74 : decode method_3_code 74 = .ok (.baload, 1) := by decide +kernel
theorem d5_75 : decode method_3_code 75 = .ok (.iadd, 1) := by decide +kernel
theorem d5_76 : decode method_3_code 76 = .ok (.istore_n 3, 1) := by decide +kernel
theorem d5_77 : decode method_3_code 77 = .ok (.iload_n 1, 1) := by decide +kernel
theorem d5_78 : decode method_3_code 78 = .ok (.iconst 4, 1) := by decide +kernel
theorem d5_79 : decode method_3_code 79 = .ok (.if_icmp .gt 17, 3) := by decide +kernel
theorem d5_82 : decode method_3_code 82 = .ok (.iconst 4, 1) := by decide +kernel
theorem d5_83 : decode method_3_code 83 = .ok (.iload_n 2, 1) := by decide +kernel
theorem d5_84 : decode method_3_code 84 = .ok (.if_icmp .ge 12, 3) := by decide +kernel
theorem d5_87 : decode method_3_code 87 = .ok (.bipush 31, 2) := by decide +kernel
theorem d5_89 : decode method_3_code 89 = .ok (.iload_n 3, 1) := by decide +kernel
theorem d5_90 : decode method_3_code 90 = .ok (.imul, 1) := by decide +kernel
theorem d5_91 : decode method_3_code 91 = .ok (.aload_n 0, 1) := by decide +kernel
theorem d5_92 : decode method_3_code 92 = .ok (.iconst 4, 1) := by decide +kernel
theorem d5_93 : decode method_3_code 93 = .ok (.baload, 1) := by decide +kernel
theorem d5_94 : decode method_3_code 94 = .ok (.iadd, 1) := by decide +kernel
theorem d5_95 : decode method_3_code 95 = .ok (.istore_n 3, 1) := by decide +kernel
theorem d5_96 : decode method_3_code 96 = .ok (.iload_n 3, 1) := by decide +kernel
theorem d5_97 : decode method_3_code 97 = .ok (.ireturn, 1) := by decide +kernel
theorem pn_AsciiTextHashCodePinLaw : plainName "com/example/hereafter/hereafter/io/AsciiTextHashCodePinLaw" = true := by first | (simp [plainName, overriddenIn]; done) | decide +kernel
theorem ef_5 (m : MethodId) (x0 : Addr) (x1 : Int32) (x2 : Int32) : entryFrame m #[(.ref x0), (.int x1), (.int x2)] 4 = mkF m 0 #[.val (.ref x0), .val (.int x1), .val (.int x2), .unset] [] := by first | (simp [entryFrame, mkF, argsToLocals, Value.category]; done) | rfl
def Q5 (Z : State) (a1 : Addr) (p2 : Int32) (p3 : Int32) (k1 : ClassId) (f1 : Nat → Int32) (h0 : Heap) (n0 : Nat) (v : Option Value) (h : Heap) (L : List Loc) : Prop := v = some (.int (own_ref f1 p2 p3)) ∧ Fr n0 L ∧ h = h0
set_option maxRecDepth 65536 in
set_option maxHeartbeats 40000000 in
theorem rm5 (l : Launch) (Z : State) (a0 : Array Value) (hw : ∀ d ∈ tables_1, d.before a0 Z = true) (ws : List Jvm.Cond) (a1 : Addr) (p2 : Int32) (p3 : Int32) (k1 : ClassId) (f1 : Nat → Int32) (h0 : Heap) (n0 : Nat) (Z0 : n0 ≤ h0.size) (V0 : Arv Z h0 a1 k1 .byte (5 : Int32) (own_vs f1) (.int (0 : Int32))) :
    MetFree l (⟨"com/example/hereafter/hereafter/io/AsciiTextHashCodePinLaw", "ref", "([BII)I"⟩ : MethodName) (head1 (Jvm.Cond.code (⟨"com/example/hereafter/hereafter/io/AsciiTextHashCodePinLaw", "ref", "([BII)I"⟩ : MethodName) method_3_code 4 (some .int) :: ws) ({ frames := 0, cells := 0, slots := 0, locals := 0 } : Room)) (fun a U => a = #[(.ref a1), (.int p2), (.int p3)] ∧ Z.Warmed39 U.vm ∧ U.heap = h0) (fun _ _ _ _ _ => True) (fun _ U o U' => ∃ v L, o = .returned v ∧ Q5 Z a1 p2 p3 k1 f1 h0 n0 v U'.heap L ∧ FrameEnd U o U' L ({ frames := 0, cells := 0, slots := 0, locals := 0 } : Room).cells ({ frames := 0, cells := 0, slots := 0, locals := 0 } : Room).slots) := by
  refine MetFree.of_bodySF (plainFor_of_name pn_AsciiTextHashCodePinLaw) hisR ?_
  intro p e s m args below meth c s₁ Bd hml0 hP hK
  obtain ⟨rfl, hZ, hh⟩ := hP
  have hx := Bd.exec
  have hby := Bd.bytes
  have hml : c.maxLocals = 4 := hml0
  have hown : s.vm.findClass "com/example/hereafter/hereafter/io/AsciiTextHashCodePinLaw" = some m.cls := findClass_of_methodNamed Bd.named
  have hnm := (name_of_methodNamed Bd.named Bd.method).1
  have X0 : Stand p l e ({ frames := 0, cells := 0, slots := 0, locals := 0 } : Room) s m #[(.ref a1), (.int p2), (.int p3)] below meth c s₁ [] 0 0 := Stand.of_body Bd
  have e0 : s₁.heap = h0 := by rw [← hh, Bd.state]; rfl
  have N0 := Fr.nil n0
  refine Gd.out (Gd.st (fun t k => castTop (ef_5 m a1 p2 p3) k) ?_)
  show Gd p.tables e below _ (s₁.setTop (mkF m 0 #[.val (.ref a1), .val (.int p2), .val (.int p3), .unset] []))
  refine Gd.st (fun _ k => XS.iconst X0.here hx rfl (hb hby d5_0) k) ?_
  show Gd p.tables e below _ (s₁.setTop (mkF m 1 #[.val (.ref a1), .val (.int p2), .val (.int p3), .unset] [(.int (0 : Int32))]))
  refine Gd.st (fun _ k => XS.istoreN X0.here hx rfl (hb hby d5_1) rfl (l' := #[.val (.ref a1), .val (.int p2), .val (.int p3), .val (.int (0 : Int32))]) rfl k) ?_
  show Gd p.tables e below _ (s₁.setTop (mkF m 2 #[.val (.ref a1), .val (.int p2), .val (.int p3), .val (.int (0 : Int32))] []))
  refine Gd.join (B := s₁.setTop (mkF m 20 #[.val (.ref a1), .val (.int p2), .val (.int p3), .val (.int (own_rj f1 p2 p3 (0 : Int32) (0 : Int32)))] [])) (fun J => ?_) ?_
  · skip
    refine Gd.st (fun _ k => XS.iloadN X0.here hx rfl (hb hby d5_2) rfl k) ?_
    show Gd p.tables e below _ (s₁.setTop (mkF m 3 #[.val (.ref a1), .val (.int p2), .val (.int p3), .val (.int (0 : Int32))] [(.int p2)]))
    by_cases hc3 : (0 : Int32) < p2
    · skip
      refine Gd.st (fun _ k => XS.ifYes X0.here hx rfl (pc0 := 3) (pc' := 20) rfl (hb hby d5_3) rfl ((if0 _ _).trans (tlt hc3).2.2.1) (by decide) (by decide) k) ?_
      show Gd p.tables e below _ (s₁.setTop (mkF m 20 #[.val (.ref a1), .val (.int p2), .val (.int p3), .val (.int (0 : Int32))] []))
      rw [show (own_rj f1 p2 p3 (0 : Int32) (0 : Int32)) = (0 : Int32) from (by first | (simp only [own_rj, eq_true hc3, not_true_eq_false, not_false_eq_true, and_true, true_and, and_false, false_and, or_true, true_or, or_false, false_or, if_true, if_false]; done) | simp [own_rj, eq_true hc3])] at J
      exact J
    · skip
      refine Gd.st (fun _ k => XS.ifNo X0.here hx rfl (hb hby d5_3) rfl ((if0 _ _).trans (flt hc3).2.2.1) k) ?_
      show Gd p.tables e below _ (s₁.setTop (mkF m 6 #[.val (.ref a1), .val (.int p2), .val (.int p3), .val (.int (0 : Int32))] []))
      refine Gd.st (fun _ k => XS.iconst X0.here hx rfl (hb hby d5_6) k) ?_
      show Gd p.tables e below _ (s₁.setTop (mkF m 7 #[.val (.ref a1), .val (.int p2), .val (.int p3), .val (.int (0 : Int32))] [(.int (0 : Int32))]))
      refine Gd.st (fun _ k => XS.iloadN X0.here hx rfl (hb hby d5_7) rfl k) ?_
      show Gd p.tables e below _ (s₁.setTop (mkF m 8 #[.val (.ref a1), .val (.int p2), .val (.int p3), .val (.int (0 : Int32))] [(.int p3), (.int (0 : Int32))]))
      by_cases hc8 : (0 : Int32) < p3
      · skip
        refine Gd.st (fun _ k => XS.icmpNo X0.here hx rfl (hb hby d5_8) rfl (tlt hc8).2.1 k) ?_
        show Gd p.tables e below _ (s₁.setTop (mkF m 11 #[.val (.ref a1), .val (.int p2), .val (.int p3), .val (.int (0 : Int32))] []))
        refine Gd.st (fun _ k => XS.bipush X0.here hx rfl (hb hby d5_11) k) ?_
        show Gd p.tables e below _ (s₁.setTop (mkF m 13 #[.val (.ref a1), .val (.int p2), .val (.int p3), .val (.int (0 : Int32))] [(.int (31 : Int32))]))
        refine Gd.st (fun _ k => XS.iloadN X0.here hx rfl (hb hby d5_13) rfl k) ?_
        show Gd p.tables e below _ (s₁.setTop (mkF m 14 #[.val (.ref a1), .val (.int p2), .val (.int p3), .val (.int (0 : Int32))] [(.int (0 : Int32)), (.int (31 : Int32))]))
        refine Gd.st (fun _ k => XS.imul X0.here hx rfl (hb hby d5_14) rfl k) ?_
        show Gd p.tables e below _ (s₁.setTop (mkF m 15 #[.val (.ref a1), .val (.int p2), .val (.int p3), .val (.int (0 : Int32))] [(.int ((31 : Int32) * (0 : Int32)))]))
        refine Gd.st (fun _ k => XS.aloadN X0.here hx rfl (hb hby d5_15) rfl rfl k) ?_
        show Gd p.tables e below _ (s₁.setTop (mkF m 16 #[.val (.ref a1), .val (.int p2), .val (.int p3), .val (.int (0 : Int32))] [(.ref a1), (.int ((31 : Int32) * (0 : Int32)))]))
        refine Gd.st (fun _ k => XS.iconst X0.here hx rfl (hb hby d5_16) k) ?_
        show Gd p.tables e below _ (s₁.setTop (mkF m 17 #[.val (.ref a1), .val (.int p2), .val (.int p3), .val (.int (0 : Int32))] [(.int (0 : Int32)), (.ref a1), (.int ((31 : Int32) * (0 : Int32)))]))
        obtain ⟨cl_1, Ar_1, q_1, S_1, N_1, H_1, G_1⟩ := id V0
        have hin_1 : ¬ ((0 : Int32) < 0 ∨ cl_1.slots.size ≤ ((0 : Int32)).toNatClampNeg) := inb_of S_1 (⟨by decide, by decide⟩)
        have hat_1 : cl_1.slots[((0 : Int32)).toNatClampNeg]? = some (.int (f1 ((0 : Int32)).toNatClampNeg)) := H_1.at hin_1 (own_get _ _ (own_lt _ (⟨by decide, by decide⟩)))
        refine Gd.st (fun _ k => X0.baloadBytes hx (j := (0 : Int32)) (v := (.int (f1 ((0 : Int32)).toNatClampNeg))) (by rw [e0]; exact Ar_1.1) (State.isArrayOf_alike hZ.alike Ar_1.2.1) Ar_1.2.2 hin_1 hat_1 (g := (mkF m 17 #[.val (.ref a1), .val (.int p2), .val (.int p3), .val (.int (0 : Int32))] [(.int (0 : Int32)), (.ref a1), (.int ((31 : Int32) * (0 : Int32)))])) rfl rfl (hb hby d5_17) _ k) ?_
        show Gd p.tables e below _ (s₁.setTop (mkF m 18 #[.val (.ref a1), .val (.int p2), .val (.int p3), .val (.int (0 : Int32))] [(.int (f1 ((0 : Int32)).toNatClampNeg)), (.int ((31 : Int32) * (0 : Int32)))]))
        refine Gd.st (fun _ k => XS.iadd X0.here hx rfl (hb hby d5_18) rfl k) ?_
        show Gd p.tables e below _ (s₁.setTop (mkF m 19 #[.val (.ref a1), .val (.int p2), .val (.int p3), .val (.int (0 : Int32))] [(.int (((31 : Int32) * (0 : Int32)) + (f1 ((0 : Int32)).toNatClampNeg)))]))
        refine Gd.st (fun _ k => XS.istoreN X0.here hx rfl (hb hby d5_19) rfl (l' := #[.val (.ref a1), .val (.int p2), .val (.int p3), .val (.int (((31 : Int32) * (0 : Int32)) + (f1 ((0 : Int32)).toNatClampNeg)))]) rfl k) ?_
        show Gd p.tables e below _ (s₁.setTop (mkF m 20 #[.val (.ref a1), .val (.int p2), .val (.int p3), .val (.int (((31 : Int32) * (0 : Int32)) + (f1 ((0 : Int32)).toNatClampNeg)))] []))
        rw [show (own_rj f1 p2 p3 (0 : Int32) (0 : Int32)) = (((31 : Int32) * (0 : Int32)) + (f1 ((0 : Int32)).toNatClampNeg)) from (by first | (simp only [own_rj, eq_false hc3, eq_true hc8, not_true_eq_false, not_false_eq_true, and_true, true_and, and_false, false_and, or_true, true_or, or_false, false_or, if_true, if_false]; done) | simp [own_rj, eq_false hc3, eq_true hc8])] at J
        exact J
      · skip
        refine Gd.st (fun _ k => XS.icmpYes X0.here hx rfl (pc0 := 8) (pc' := 20) rfl (hb hby d5_8) rfl (flt hc8).2.1 (by decide) (by decide) k) ?_
        show Gd p.tables e below _ (s₁.setTop (mkF m 20 #[.val (.ref a1), .val (.int p2), .val (.int p3), .val (.int (0 : Int32))] []))
        rw [show (own_rj f1 p2 p3 (0 : Int32) (0 : Int32)) = (0 : Int32) from (by first | (simp only [own_rj, eq_false hc3, eq_false hc8, not_true_eq_false, not_false_eq_true, and_true, true_and, and_false, false_and, or_true, true_or, or_false, false_or, if_true, if_false]; done) | simp [own_rj, eq_false hc3, eq_false hc8])] at J
        exact J
  show Gd p.tables e below _ (s₁.setTop (mkF m 20 #[.val (.ref a1), .val (.int p2), .val (.int p3), .val (.int (own_rj f1 p2 p3 (0 : Int32) (0 : Int32)))] []))
  refine Gd.join (B := s₁.setTop (mkF m 39 #[.val (.ref a1), .val (.int p2), .val (.int p3), .val (.int (own_rj f1 p2 p3 (1 : Int32) (own_rj f1 p2 p3 (0 : Int32) (0 : Int32))))] [])) (fun J => ?_) ?_
  · skip
    refine Gd.st (fun _ k => XS.iloadN X0.here hx rfl (hb hby d5_20) rfl k) ?_
    show Gd p.tables e below _ (s₁.setTop (mkF m 21 #[.val (.ref a1), .val (.int p2), .val (.int p3), .val (.int (own_rj f1 p2 p3 (0 : Int32) (0 : Int32)))] [(.int p2)]))
    refine Gd.st (fun _ k => XS.iconst X0.here hx rfl (hb hby d5_21) k) ?_
    show Gd p.tables e below _ (s₁.setTop (mkF m 22 #[.val (.ref a1), .val (.int p2), .val (.int p3), .val (.int (own_rj f1 p2 p3 (0 : Int32) (0 : Int32)))] [(.int (1 : Int32)), (.int p2)]))
    by_cases hc22 : (1 : Int32) < p2
    · skip
      refine Gd.st (fun _ k => XS.icmpYes X0.here hx rfl (pc0 := 22) (pc' := 39) rfl (hb hby d5_22) rfl (tlt hc22).2.2.1 (by decide) (by decide) k) ?_
      show Gd p.tables e below _ (s₁.setTop (mkF m 39 #[.val (.ref a1), .val (.int p2), .val (.int p3), .val (.int (own_rj f1 p2 p3 (0 : Int32) (0 : Int32)))] []))
      rw [show (own_rj f1 p2 p3 (1 : Int32) (own_rj f1 p2 p3 (0 : Int32) (0 : Int32))) = (own_rj f1 p2 p3 (0 : Int32) (0 : Int32)) from (by first | (simp only [own_rj, eq_true hc22, not_true_eq_false, not_false_eq_true, and_true, true_and, and_false, false_and, or_true, true_or, or_false, false_or, if_true, if_false]; done) | simp [own_rj, eq_true hc22])] at J
      exact J
    · skip
      refine Gd.st (fun _ k => XS.icmpNo X0.here hx rfl (hb hby d5_22) rfl (flt hc22).2.2.1 k) ?_
      show Gd p.tables e below _ (s₁.setTop (mkF m 25 #[.val (.ref a1), .val (.int p2), .val (.int p3), .val (.int (own_rj f1 p2 p3 (0 : Int32) (0 : Int32)))] []))
      refine Gd.st (fun _ k => XS.iconst X0.here hx rfl (hb hby d5_25) k) ?_
      show Gd p.tables e below _ (s₁.setTop (mkF m 26 #[.val (.ref a1), .val (.int p2), .val (.int p3), .val (.int (own_rj f1 p2 p3 (0 : Int32) (0 : Int32)))] [(.int (1 : Int32))]))
      refine Gd.st (fun _ k => XS.iloadN X0.here hx rfl (hb hby d5_26) rfl k) ?_
      show Gd p.tables e below _ (s₁.setTop (mkF m 27 #[.val (.ref a1), .val (.int p2), .val (.int p3), .val (.int (own_rj f1 p2 p3 (0 : Int32) (0 : Int32)))] [(.int p3), (.int (1 : Int32))]))
      by_cases hc27 : (1 : Int32) < p3
      · skip
        refine Gd.st (fun _ k => XS.icmpNo X0.here hx rfl (hb hby d5_27) rfl (tlt hc27).2.1 k) ?_
        show Gd p.tables e below _ (s₁.setTop (mkF m 30 #[.val (.ref a1), .val (.int p2), .val (.int p3), .val (.int (own_rj f1 p2 p3 (0 : Int32) (0 : Int32)))] []))
        refine Gd.st (fun _ k => XS.bipush X0.here hx rfl (hb hby d5_30) k) ?_
        show Gd p.tables e below _ (s₁.setTop (mkF m 32 #[.val (.ref a1), .val (.int p2), .val (.int p3), .val (.int (own_rj f1 p2 p3 (0 : Int32) (0 : Int32)))] [(.int (31 : Int32))]))
        refine Gd.st (fun _ k => XS.iloadN X0.here hx rfl (hb hby d5_32) rfl k) ?_
        show Gd p.tables e below _ (s₁.setTop (mkF m 33 #[.val (.ref a1), .val (.int p2), .val (.int p3), .val (.int (own_rj f1 p2 p3 (0 : Int32) (0 : Int32)))] [(.int (own_rj f1 p2 p3 (0 : Int32) (0 : Int32))), (.int (31 : Int32))]))
        refine Gd.st (fun _ k => XS.imul X0.here hx rfl (hb hby d5_33) rfl k) ?_
        show Gd p.tables e below _ (s₁.setTop (mkF m 34 #[.val (.ref a1), .val (.int p2), .val (.int p3), .val (.int (own_rj f1 p2 p3 (0 : Int32) (0 : Int32)))] [(.int ((31 : Int32) * (own_rj f1 p2 p3 (0 : Int32) (0 : Int32))))]))
        refine Gd.st (fun _ k => XS.aloadN X0.here hx rfl (hb hby d5_34) rfl rfl k) ?_
        show Gd p.tables e below _ (s₁.setTop (mkF m 35 #[.val (.ref a1), .val (.int p2), .val (.int p3), .val (.int (own_rj f1 p2 p3 (0 : Int32) (0 : Int32)))] [(.ref a1), (.int ((31 : Int32) * (own_rj f1 p2 p3 (0 : Int32) (0 : Int32))))]))
        refine Gd.st (fun _ k => XS.iconst X0.here hx rfl (hb hby d5_35) k) ?_
        show Gd p.tables e below _ (s₁.setTop (mkF m 36 #[.val (.ref a1), .val (.int p2), .val (.int p3), .val (.int (own_rj f1 p2 p3 (0 : Int32) (0 : Int32)))] [(.int (1 : Int32)), (.ref a1), (.int ((31 : Int32) * (own_rj f1 p2 p3 (0 : Int32) (0 : Int32))))]))
        obtain ⟨cl_2, Ar_2, q_2, S_2, N_2, H_2, G_2⟩ := id V0
        have hin_2 : ¬ ((1 : Int32) < 0 ∨ cl_2.slots.size ≤ ((1 : Int32)).toNatClampNeg) := inb_of S_2 (⟨by decide, by decide⟩)
        have hat_2 : cl_2.slots[((1 : Int32)).toNatClampNeg]? = some (.int (f1 ((1 : Int32)).toNatClampNeg)) := H_2.at hin_2 (own_get _ _ (own_lt _ (⟨by decide, by decide⟩)))
        refine Gd.st (fun _ k => X0.baloadBytes hx (j := (1 : Int32)) (v := (.int (f1 ((1 : Int32)).toNatClampNeg))) (by rw [e0]; exact Ar_2.1) (State.isArrayOf_alike hZ.alike Ar_2.2.1) Ar_2.2.2 hin_2 hat_2 (g := (mkF m 36 #[.val (.ref a1), .val (.int p2), .val (.int p3), .val (.int (own_rj f1 p2 p3 (0 : Int32) (0 : Int32)))] [(.int (1 : Int32)), (.ref a1), (.int ((31 : Int32) * (own_rj f1 p2 p3 (0 : Int32) (0 : Int32))))])) rfl rfl (hb hby d5_36) _ k) ?_
        show Gd p.tables e below _ (s₁.setTop (mkF m 37 #[.val (.ref a1), .val (.int p2), .val (.int p3), .val (.int (own_rj f1 p2 p3 (0 : Int32) (0 : Int32)))] [(.int (f1 ((1 : Int32)).toNatClampNeg)), (.int ((31 : Int32) * (own_rj f1 p2 p3 (0 : Int32) (0 : Int32))))]))
        refine Gd.st (fun _ k => XS.iadd X0.here hx rfl (hb hby d5_37) rfl k) ?_
        show Gd p.tables e below _ (s₁.setTop (mkF m 38 #[.val (.ref a1), .val (.int p2), .val (.int p3), .val (.int (own_rj f1 p2 p3 (0 : Int32) (0 : Int32)))] [(.int (((31 : Int32) * (own_rj f1 p2 p3 (0 : Int32) (0 : Int32))) + (f1 ((1 : Int32)).toNatClampNeg)))]))
        refine Gd.st (fun _ k => XS.istoreN X0.here hx rfl (hb hby d5_38) rfl (l' := #[.val (.ref a1), .val (.int p2), .val (.int p3), .val (.int (((31 : Int32) * (own_rj f1 p2 p3 (0 : Int32) (0 : Int32))) + (f1 ((1 : Int32)).toNatClampNeg)))]) rfl k) ?_
        show Gd p.tables e below _ (s₁.setTop (mkF m 39 #[.val (.ref a1), .val (.int p2), .val (.int p3), .val (.int (((31 : Int32) * (own_rj f1 p2 p3 (0 : Int32) (0 : Int32))) + (f1 ((1 : Int32)).toNatClampNeg)))] []))
        rw [show (own_rj f1 p2 p3 (1 : Int32) (own_rj f1 p2 p3 (0 : Int32) (0 : Int32))) = (((31 : Int32) * (own_rj f1 p2 p3 (0 : Int32) (0 : Int32))) + (f1 ((1 : Int32)).toNatClampNeg)) from (by first | (simp only [own_rj, eq_false hc22, eq_true hc27, not_true_eq_false, not_false_eq_true, and_true, true_and, and_false, false_and, or_true, true_or, or_false, false_or, if_true, if_false]; done) | simp [own_rj, eq_false hc22, eq_true hc27])] at J
        exact J
      · skip
        refine Gd.st (fun _ k => XS.icmpYes X0.here hx rfl (pc0 := 27) (pc' := 39) rfl (hb hby d5_27) rfl (flt hc27).2.1 (by decide) (by decide) k) ?_
        show Gd p.tables e below _ (s₁.setTop (mkF m 39 #[.val (.ref a1), .val (.int p2), .val (.int p3), .val (.int (own_rj f1 p2 p3 (0 : Int32) (0 : Int32)))] []))
        rw [show (own_rj f1 p2 p3 (1 : Int32) (own_rj f1 p2 p3 (0 : Int32) (0 : Int32))) = (own_rj f1 p2 p3 (0 : Int32) (0 : Int32)) from (by first | (simp only [own_rj, eq_false hc22, eq_false hc27, not_true_eq_false, not_false_eq_true, and_true, true_and, and_false, false_and, or_true, true_or, or_false, false_or, if_true, if_false]; done) | simp [own_rj, eq_false hc22, eq_false hc27])] at J
        exact J
  show Gd p.tables e below _ (s₁.setTop (mkF m 39 #[.val (.ref a1), .val (.int p2), .val (.int p3), .val (.int (own_rj f1 p2 p3 (1 : Int32) (own_rj f1 p2 p3 (0 : Int32) (0 : Int32))))] []))
  refine Gd.join (B := s₁.setTop (mkF m 58 #[.val (.ref a1), .val (.int p2), .val (.int p3), .val (.int (own_rj f1 p2 p3 (2 : Int32) (own_rj f1 p2 p3 (1 : Int32) (own_rj f1 p2 p3 (0 : Int32) (0 : Int32)))))] [])) (fun J => ?_) ?_
  · skip
    refine Gd.st (fun _ k => XS.iloadN X0.here hx rfl (hb hby d5_39) rfl k) ?_
    show Gd p.tables e below _ (s₁.setTop (mkF m 40 #[.val (.ref a1), .val (.int p2), .val (.int p3), .val (.int (own_rj f1 p2 p3 (1 : Int32) (own_rj f1 p2 p3 (0 : Int32) (0 : Int32))))] [(.int p2)]))
    refine Gd.st (fun _ k => XS.iconst X0.here hx rfl (hb hby d5_40) k) ?_
    show Gd p.tables e below _ (s₁.setTop (mkF m 41 #[.val (.ref a1), .val (.int p2), .val (.int p3), .val (.int (own_rj f1 p2 p3 (1 : Int32) (own_rj f1 p2 p3 (0 : Int32) (0 : Int32))))] [(.int (2 : Int32)), (.int p2)]))
    by_cases hc41 : (2 : Int32) < p2
    · skip
      refine Gd.st (fun _ k => XS.icmpYes X0.here hx rfl (pc0 := 41) (pc' := 58) rfl (hb hby d5_41) rfl (tlt hc41).2.2.1 (by decide) (by decide) k) ?_
      show Gd p.tables e below _ (s₁.setTop (mkF m 58 #[.val (.ref a1), .val (.int p2), .val (.int p3), .val (.int (own_rj f1 p2 p3 (1 : Int32) (own_rj f1 p2 p3 (0 : Int32) (0 : Int32))))] []))
      rw [show (own_rj f1 p2 p3 (2 : Int32) (own_rj f1 p2 p3 (1 : Int32) (own_rj f1 p2 p3 (0 : Int32) (0 : Int32)))) = (own_rj f1 p2 p3 (1 : Int32) (own_rj f1 p2 p3 (0 : Int32) (0 : Int32))) from (by first | (simp only [own_rj, eq_true hc41, not_true_eq_false, not_false_eq_true, and_true, true_and, and_false, false_and, or_true, true_or, or_false, false_or, if_true, if_false]; done) | simp [own_rj, eq_true hc41])] at J
      exact J
    · skip
      refine Gd.st (fun _ k => XS.icmpNo X0.here hx rfl (hb hby d5_41) rfl (flt hc41).2.2.1 k) ?_
      show Gd p.tables e below _ (s₁.setTop (mkF m 44 #[.val (.ref a1), .val (.int p2), .val (.int p3), .val (.int (own_rj f1 p2 p3 (1 : Int32) (own_rj f1 p2 p3 (0 : Int32) (0 : Int32))))] []))
      refine Gd.st (fun _ k => XS.iconst X0.here hx rfl (hb hby d5_44) k) ?_
      show Gd p.tables e below _ (s₁.setTop (mkF m 45 #[.val (.ref a1), .val (.int p2), .val (.int p3), .val (.int (own_rj f1 p2 p3 (1 : Int32) (own_rj f1 p2 p3 (0 : Int32) (0 : Int32))))] [(.int (2 : Int32))]))
      refine Gd.st (fun _ k => XS.iloadN X0.here hx rfl (hb hby d5_45) rfl k) ?_
      show Gd p.tables e below _ (s₁.setTop (mkF m 46 #[.val (.ref a1), .val (.int p2), .val (.int p3), .val (.int (own_rj f1 p2 p3 (1 : Int32) (own_rj f1 p2 p3 (0 : Int32) (0 : Int32))))] [(.int p3), (.int (2 : Int32))]))
      by_cases hc46 : (2 : Int32) < p3
      · skip
        refine Gd.st (fun _ k => XS.icmpNo X0.here hx rfl (hb hby d5_46) rfl (tlt hc46).2.1 k) ?_
        show Gd p.tables e below _ (s₁.setTop (mkF m 49 #[.val (.ref a1), .val (.int p2), .val (.int p3), .val (.int (own_rj f1 p2 p3 (1 : Int32) (own_rj f1 p2 p3 (0 : Int32) (0 : Int32))))] []))
        refine Gd.st (fun _ k => XS.bipush X0.here hx rfl (hb hby d5_49) k) ?_
        show Gd p.tables e below _ (s₁.setTop (mkF m 51 #[.val (.ref a1), .val (.int p2), .val (.int p3), .val (.int (own_rj f1 p2 p3 (1 : Int32) (own_rj f1 p2 p3 (0 : Int32) (0 : Int32))))] [(.int (31 : Int32))]))
        refine Gd.st (fun _ k => XS.iloadN X0.here hx rfl (hb hby d5_51) rfl k) ?_
        show Gd p.tables e below _ (s₁.setTop (mkF m 52 #[.val (.ref a1), .val (.int p2), .val (.int p3), .val (.int (own_rj f1 p2 p3 (1 : Int32) (own_rj f1 p2 p3 (0 : Int32) (0 : Int32))))] [(.int (own_rj f1 p2 p3 (1 : Int32) (own_rj f1 p2 p3 (0 : Int32) (0 : Int32)))), (.int (31 : Int32))]))
        refine Gd.st (fun _ k => XS.imul X0.here hx rfl (hb hby d5_52) rfl k) ?_
        show Gd p.tables e below _ (s₁.setTop (mkF m 53 #[.val (.ref a1), .val (.int p2), .val (.int p3), .val (.int (own_rj f1 p2 p3 (1 : Int32) (own_rj f1 p2 p3 (0 : Int32) (0 : Int32))))] [(.int ((31 : Int32) * (own_rj f1 p2 p3 (1 : Int32) (own_rj f1 p2 p3 (0 : Int32) (0 : Int32)))))]))
        refine Gd.st (fun _ k => XS.aloadN X0.here hx rfl (hb hby d5_53) rfl rfl k) ?_
        show Gd p.tables e below _ (s₁.setTop (mkF m 54 #[.val (.ref a1), .val (.int p2), .val (.int p3), .val (.int (own_rj f1 p2 p3 (1 : Int32) (own_rj f1 p2 p3 (0 : Int32) (0 : Int32))))] [(.ref a1), (.int ((31 : Int32) * (own_rj f1 p2 p3 (1 : Int32) (own_rj f1 p2 p3 (0 : Int32) (0 : Int32)))))]))
        refine Gd.st (fun _ k => XS.iconst X0.here hx rfl (hb hby d5_54) k) ?_
        show Gd p.tables e below _ (s₁.setTop (mkF m 55 #[.val (.ref a1), .val (.int p2), .val (.int p3), .val (.int (own_rj f1 p2 p3 (1 : Int32) (own_rj f1 p2 p3 (0 : Int32) (0 : Int32))))] [(.int (2 : Int32)), (.ref a1), (.int ((31 : Int32) * (own_rj f1 p2 p3 (1 : Int32) (own_rj f1 p2 p3 (0 : Int32) (0 : Int32)))))]))
        obtain ⟨cl_3, Ar_3, q_3, S_3, N_3, H_3, G_3⟩ := id V0
        have hin_3 : ¬ ((2 : Int32) < 0 ∨ cl_3.slots.size ≤ ((2 : Int32)).toNatClampNeg) := inb_of S_3 (⟨by decide, by decide⟩)
        have hat_3 : cl_3.slots[((2 : Int32)).toNatClampNeg]? = some (.int (f1 ((2 : Int32)).toNatClampNeg)) := H_3.at hin_3 (own_get _ _ (own_lt _ (⟨by decide, by decide⟩)))
        refine Gd.st (fun _ k => X0.baloadBytes hx (j := (2 : Int32)) (v := (.int (f1 ((2 : Int32)).toNatClampNeg))) (by rw [e0]; exact Ar_3.1) (State.isArrayOf_alike hZ.alike Ar_3.2.1) Ar_3.2.2 hin_3 hat_3 (g := (mkF m 55 #[.val (.ref a1), .val (.int p2), .val (.int p3), .val (.int (own_rj f1 p2 p3 (1 : Int32) (own_rj f1 p2 p3 (0 : Int32) (0 : Int32))))] [(.int (2 : Int32)), (.ref a1), (.int ((31 : Int32) * (own_rj f1 p2 p3 (1 : Int32) (own_rj f1 p2 p3 (0 : Int32) (0 : Int32)))))])) rfl rfl (hb hby d5_55) _ k) ?_
        show Gd p.tables e below _ (s₁.setTop (mkF m 56 #[.val (.ref a1), .val (.int p2), .val (.int p3), .val (.int (own_rj f1 p2 p3 (1 : Int32) (own_rj f1 p2 p3 (0 : Int32) (0 : Int32))))] [(.int (f1 ((2 : Int32)).toNatClampNeg)), (.int ((31 : Int32) * (own_rj f1 p2 p3 (1 : Int32) (own_rj f1 p2 p3 (0 : Int32) (0 : Int32)))))]))
        refine Gd.st (fun _ k => XS.iadd X0.here hx rfl (hb hby d5_56) rfl k) ?_
        show Gd p.tables e below _ (s₁.setTop (mkF m 57 #[.val (.ref a1), .val (.int p2), .val (.int p3), .val (.int (own_rj f1 p2 p3 (1 : Int32) (own_rj f1 p2 p3 (0 : Int32) (0 : Int32))))] [(.int (((31 : Int32) * (own_rj f1 p2 p3 (1 : Int32) (own_rj f1 p2 p3 (0 : Int32) (0 : Int32)))) + (f1 ((2 : Int32)).toNatClampNeg)))]))
        refine Gd.st (fun _ k => XS.istoreN X0.here hx rfl (hb hby d5_57) rfl (l' := #[.val (.ref a1), .val (.int p2), .val (.int p3), .val (.int (((31 : Int32) * (own_rj f1 p2 p3 (1 : Int32) (own_rj f1 p2 p3 (0 : Int32) (0 : Int32)))) + (f1 ((2 : Int32)).toNatClampNeg)))]) rfl k) ?_
        show Gd p.tables e below _ (s₁.setTop (mkF m 58 #[.val (.ref a1), .val (.int p2), .val (.int p3), .val (.int (((31 : Int32) * (own_rj f1 p2 p3 (1 : Int32) (own_rj f1 p2 p3 (0 : Int32) (0 : Int32)))) + (f1 ((2 : Int32)).toNatClampNeg)))] []))
        rw [show (own_rj f1 p2 p3 (2 : Int32) (own_rj f1 p2 p3 (1 : Int32) (own_rj f1 p2 p3 (0 : Int32) (0 : Int32)))) = (((31 : Int32) * (own_rj f1 p2 p3 (1 : Int32) (own_rj f1 p2 p3 (0 : Int32) (0 : Int32)))) + (f1 ((2 : Int32)).toNatClampNeg)) from (by first | (simp only [own_rj, eq_false hc41, eq_true hc46, not_true_eq_false, not_false_eq_true, and_true, true_and, and_false, false_and, or_true, true_or, or_false, false_or, if_true, if_false]; done) | simp [own_rj, eq_false hc41, eq_true hc46])] at J
        exact J
      · skip
        refine Gd.st (fun _ k => XS.icmpYes X0.here hx rfl (pc0 := 46) (pc' := 58) rfl (hb hby d5_46) rfl (flt hc46).2.1 (by decide) (by decide) k) ?_
        show Gd p.tables e below _ (s₁.setTop (mkF m 58 #[.val (.ref a1), .val (.int p2), .val (.int p3), .val (.int (own_rj f1 p2 p3 (1 : Int32) (own_rj f1 p2 p3 (0 : Int32) (0 : Int32))))] []))
        rw [show (own_rj f1 p2 p3 (2 : Int32) (own_rj f1 p2 p3 (1 : Int32) (own_rj f1 p2 p3 (0 : Int32) (0 : Int32)))) = (own_rj f1 p2 p3 (1 : Int32) (own_rj f1 p2 p3 (0 : Int32) (0 : Int32))) from (by first | (simp only [own_rj, eq_false hc41, eq_false hc46, not_true_eq_false, not_false_eq_true, and_true, true_and, and_false, false_and, or_true, true_or, or_false, false_or, if_true, if_false]; done) | simp [own_rj, eq_false hc41, eq_false hc46])] at J
        exact J
  show Gd p.tables e below _ (s₁.setTop (mkF m 58 #[.val (.ref a1), .val (.int p2), .val (.int p3), .val (.int (own_rj f1 p2 p3 (2 : Int32) (own_rj f1 p2 p3 (1 : Int32) (own_rj f1 p2 p3 (0 : Int32) (0 : Int32)))))] []))
  refine Gd.join (B := s₁.setTop (mkF m 77 #[.val (.ref a1), .val (.int p2), .val (.int p3), .val (.int (own_rj f1 p2 p3 (3 : Int32) (own_rj f1 p2 p3 (2 : Int32) (own_rj f1 p2 p3 (1 : Int32) (own_rj f1 p2 p3 (0 : Int32) (0 : Int32))))))] [])) (fun J => ?_) ?_
  · skip
    refine Gd.st (fun _ k => XS.iloadN X0.here hx rfl (hb hby d5_58) rfl k) ?_
    show Gd p.tables e below _ (s₁.setTop (mkF m 59 #[.val (.ref a1), .val (.int p2), .val (.int p3), .val (.int (own_rj f1 p2 p3 (2 : Int32) (own_rj f1 p2 p3 (1 : Int32) (own_rj f1 p2 p3 (0 : Int32) (0 : Int32)))))] [(.int p2)]))
    refine Gd.st (fun _ k => XS.iconst X0.here hx rfl (hb hby d5_59) k) ?_
    show Gd p.tables e below _ (s₁.setTop (mkF m 60 #[.val (.ref a1), .val (.int p2), .val (.int p3), .val (.int (own_rj f1 p2 p3 (2 : Int32) (own_rj f1 p2 p3 (1 : Int32) (own_rj f1 p2 p3 (0 : Int32) (0 : Int32)))))] [(.int (3 : Int32)), (.int p2)]))
    by_cases hc60 : (3 : Int32) < p2
    · skip
      refine Gd.st (fun _ k => XS.icmpYes X0.here hx rfl (pc0 := 60) (pc' := 77) rfl (hb hby d5_60) rfl (tlt hc60).2.2.1 (by decide) (by decide) k) ?_
      show Gd p.tables e below _ (s₁.setTop (mkF m 77 #[.val (.ref a1), .val (.int p2), .val (.int p3), .val (.int (own_rj f1 p2 p3 (2 : Int32) (own_rj f1 p2 p3 (1 : Int32) (own_rj f1 p2 p3 (0 : Int32) (0 : Int32)))))] []))
      rw [show (own_rj f1 p2 p3 (3 : Int32) (own_rj f1 p2 p3 (2 : Int32) (own_rj f1 p2 p3 (1 : Int32) (own_rj f1 p2 p3 (0 : Int32) (0 : Int32))))) = (own_rj f1 p2 p3 (2 : Int32) (own_rj f1 p2 p3 (1 : Int32) (own_rj f1 p2 p3 (0 : Int32) (0 : Int32)))) from (by first | (simp only [own_rj, eq_true hc60, not_true_eq_false, not_false_eq_true, and_true, true_and, and_false, false_and, or_true, true_or, or_false, false_or, if_true, if_false]; done) | simp [own_rj, eq_true hc60])] at J
      exact J
    · skip
      refine Gd.st (fun _ k => XS.icmpNo X0.here hx rfl (hb hby d5_60) rfl (flt hc60).2.2.1 k) ?_
      show Gd p.tables e below _ (s₁.setTop (mkF m 63 #[.val (.ref a1), .val (.int p2), .val (.int p3), .val (.int (own_rj f1 p2 p3 (2 : Int32) (own_rj f1 p2 p3 (1 : Int32) (own_rj f1 p2 p3 (0 : Int32) (0 : Int32)))))] []))
      refine Gd.st (fun _ k => XS.iconst X0.here hx rfl (hb hby d5_63) k) ?_
      show Gd p.tables e below _ (s₁.setTop (mkF m 64 #[.val (.ref a1), .val (.int p2), .val (.int p3), .val (.int (own_rj f1 p2 p3 (2 : Int32) (own_rj f1 p2 p3 (1 : Int32) (own_rj f1 p2 p3 (0 : Int32) (0 : Int32)))))] [(.int (3 : Int32))]))
      refine Gd.st (fun _ k => XS.iloadN X0.here hx rfl (hb hby d5_64) rfl k) ?_
      show Gd p.tables e below _ (s₁.setTop (mkF m 65 #[.val (.ref a1), .val (.int p2), .val (.int p3), .val (.int (own_rj f1 p2 p3 (2 : Int32) (own_rj f1 p2 p3 (1 : Int32) (own_rj f1 p2 p3 (0 : Int32) (0 : Int32)))))] [(.int p3), (.int (3 : Int32))]))
      by_cases hc65 : (3 : Int32) < p3
      · skip
        refine Gd.st (fun _ k => XS.icmpNo X0.here hx rfl (hb hby d5_65) rfl (tlt hc65).2.1 k) ?_
        show Gd p.tables e below _ (s₁.setTop (mkF m 68 #[.val (.ref a1), .val (.int p2), .val (.int p3), .val (.int (own_rj f1 p2 p3 (2 : Int32) (own_rj f1 p2 p3 (1 : Int32) (own_rj f1 p2 p3 (0 : Int32) (0 : Int32)))))] []))
        refine Gd.st (fun _ k => XS.bipush X0.here hx rfl (hb hby d5_68) k) ?_
        show Gd p.tables e below _ (s₁.setTop (mkF m 70 #[.val (.ref a1), .val (.int p2), .val (.int p3), .val (.int (own_rj f1 p2 p3 (2 : Int32) (own_rj f1 p2 p3 (1 : Int32) (own_rj f1 p2 p3 (0 : Int32) (0 : Int32)))))] [(.int (31 : Int32))]))
        refine Gd.st (fun _ k => XS.iloadN X0.here hx rfl (hb hby d5_70) rfl k) ?_
        show Gd p.tables e below _ (s₁.setTop (mkF m 71 #[.val (.ref a1), .val (.int p2), .val (.int p3), .val (.int (own_rj f1 p2 p3 (2 : Int32) (own_rj f1 p2 p3 (1 : Int32) (own_rj f1 p2 p3 (0 : Int32) (0 : Int32)))))] [(.int (own_rj f1 p2 p3 (2 : Int32) (own_rj f1 p2 p3 (1 : Int32) (own_rj f1 p2 p3 (0 : Int32) (0 : Int32))))), (.int (31 : Int32))]))
        refine Gd.st (fun _ k => XS.imul X0.here hx rfl (hb hby d5_71) rfl k) ?_
        show Gd p.tables e below _ (s₁.setTop (mkF m 72 #[.val (.ref a1), .val (.int p2), .val (.int p3), .val (.int (own_rj f1 p2 p3 (2 : Int32) (own_rj f1 p2 p3 (1 : Int32) (own_rj f1 p2 p3 (0 : Int32) (0 : Int32)))))] [(.int ((31 : Int32) * (own_rj f1 p2 p3 (2 : Int32) (own_rj f1 p2 p3 (1 : Int32) (own_rj f1 p2 p3 (0 : Int32) (0 : Int32))))))]))
        refine Gd.st (fun _ k => XS.aloadN X0.here hx rfl (hb hby d5_72) rfl rfl k) ?_
        show Gd p.tables e below _ (s₁.setTop (mkF m 73 #[.val (.ref a1), .val (.int p2), .val (.int p3), .val (.int (own_rj f1 p2 p3 (2 : Int32) (own_rj f1 p2 p3 (1 : Int32) (own_rj f1 p2 p3 (0 : Int32) (0 : Int32)))))] [(.ref a1), (.int ((31 : Int32) * (own_rj f1 p2 p3 (2 : Int32) (own_rj f1 p2 p3 (1 : Int32) (own_rj f1 p2 p3 (0 : Int32) (0 : Int32))))))]))
        refine Gd.st (fun _ k => XS.iconst X0.here hx rfl (hb hby d5_73) k) ?_
        show Gd p.tables e below _ (s₁.setTop (mkF m 74 #[.val (.ref a1), .val (.int p2), .val (.int p3), .val (.int (own_rj f1 p2 p3 (2 : Int32) (own_rj f1 p2 p3 (1 : Int32) (own_rj f1 p2 p3 (0 : Int32) (0 : Int32)))))] [(.int (3 : Int32)), (.ref a1), (.int ((31 : Int32) * (own_rj f1 p2 p3 (2 : Int32) (own_rj f1 p2 p3 (1 : Int32) (own_rj f1 p2 p3 (0 : Int32) (0 : Int32))))))]))
        obtain ⟨cl_4, Ar_4, q_4, S_4, N_4, H_4, G_4⟩ := id V0
        have hin_4 : ¬ ((3 : Int32) < 0 ∨ cl_4.slots.size ≤ ((3 : Int32)).toNatClampNeg) := inb_of S_4 (⟨by decide, by decide⟩)
        have hat_4 : cl_4.slots[((3 : Int32)).toNatClampNeg]? = some (.int (f1 ((3 : Int32)).toNatClampNeg)) := H_4.at hin_4 (own_get _ _ (own_lt _ (⟨by decide, by decide⟩)))
        refine Gd.st (fun _ k => X0.baloadBytes hx (j := (3 : Int32)) (v := (.int (f1 ((3 : Int32)).toNatClampNeg))) (by rw [e0]; exact Ar_4.1) (State.isArrayOf_alike hZ.alike Ar_4.2.1) Ar_4.2.2 hin_4 hat_4 (g := (mkF m 74 #[.val (.ref a1), .val (.int p2), .val (.int p3), .val (.int (own_rj f1 p2 p3 (2 : Int32) (own_rj f1 p2 p3 (1 : Int32) (own_rj f1 p2 p3 (0 : Int32) (0 : Int32)))))] [(.int (3 : Int32)), (.ref a1), (.int ((31 : Int32) * (own_rj f1 p2 p3 (2 : Int32) (own_rj f1 p2 p3 (1 : Int32) (own_rj f1 p2 p3 (0 : Int32) (0 : Int32))))))])) rfl rfl (hb hby d5_74) _ k) ?_
        show Gd p.tables e below _ (s₁.setTop (mkF m 75 #[.val (.ref a1), .val (.int p2), .val (.int p3), .val (.int (own_rj f1 p2 p3 (2 : Int32) (own_rj f1 p2 p3 (1 : Int32) (own_rj f1 p2 p3 (0 : Int32) (0 : Int32)))))] [(.int (f1 ((3 : Int32)).toNatClampNeg)), (.int ((31 : Int32) * (own_rj f1 p2 p3 (2 : Int32) (own_rj f1 p2 p3 (1 : Int32) (own_rj f1 p2 p3 (0 : Int32) (0 : Int32))))))]))
        refine Gd.st (fun _ k => XS.iadd X0.here hx rfl (hb hby d5_75) rfl k) ?_
        show Gd p.tables e below _ (s₁.setTop (mkF m 76 #[.val (.ref a1), .val (.int p2), .val (.int p3), .val (.int (own_rj f1 p2 p3 (2 : Int32) (own_rj f1 p2 p3 (1 : Int32) (own_rj f1 p2 p3 (0 : Int32) (0 : Int32)))))] [(.int (((31 : Int32) * (own_rj f1 p2 p3 (2 : Int32) (own_rj f1 p2 p3 (1 : Int32) (own_rj f1 p2 p3 (0 : Int32) (0 : Int32))))) + (f1 ((3 : Int32)).toNatClampNeg)))]))
        refine Gd.st (fun _ k => XS.istoreN X0.here hx rfl (hb hby d5_76) rfl (l' := #[.val (.ref a1), .val (.int p2), .val (.int p3), .val (.int (((31 : Int32) * (own_rj f1 p2 p3 (2 : Int32) (own_rj f1 p2 p3 (1 : Int32) (own_rj f1 p2 p3 (0 : Int32) (0 : Int32))))) + (f1 ((3 : Int32)).toNatClampNeg)))]) rfl k) ?_
        show Gd p.tables e below _ (s₁.setTop (mkF m 77 #[.val (.ref a1), .val (.int p2), .val (.int p3), .val (.int (((31 : Int32) * (own_rj f1 p2 p3 (2 : Int32) (own_rj f1 p2 p3 (1 : Int32) (own_rj f1 p2 p3 (0 : Int32) (0 : Int32))))) + (f1 ((3 : Int32)).toNatClampNeg)))] []))
        rw [show (own_rj f1 p2 p3 (3 : Int32) (own_rj f1 p2 p3 (2 : Int32) (own_rj f1 p2 p3 (1 : Int32) (own_rj f1 p2 p3 (0 : Int32) (0 : Int32))))) = (((31 : Int32) * (own_rj f1 p2 p3 (2 : Int32) (own_rj f1 p2 p3 (1 : Int32) (own_rj f1 p2 p3 (0 : Int32) (0 : Int32))))) + (f1 ((3 : Int32)).toNatClampNeg)) from (by first | (simp only [own_rj, eq_false hc60, eq_true hc65, not_true_eq_false, not_false_eq_true, and_true, true_and, and_false, false_and, or_true, true_or, or_false, false_or, if_true, if_false]; done) | simp [own_rj, eq_false hc60, eq_true hc65])] at J
        exact J
      · skip
        refine Gd.st (fun _ k => XS.icmpYes X0.here hx rfl (pc0 := 65) (pc' := 77) rfl (hb hby d5_65) rfl (flt hc65).2.1 (by decide) (by decide) k) ?_
        show Gd p.tables e below _ (s₁.setTop (mkF m 77 #[.val (.ref a1), .val (.int p2), .val (.int p3), .val (.int (own_rj f1 p2 p3 (2 : Int32) (own_rj f1 p2 p3 (1 : Int32) (own_rj f1 p2 p3 (0 : Int32) (0 : Int32)))))] []))
        rw [show (own_rj f1 p2 p3 (3 : Int32) (own_rj f1 p2 p3 (2 : Int32) (own_rj f1 p2 p3 (1 : Int32) (own_rj f1 p2 p3 (0 : Int32) (0 : Int32))))) = (own_rj f1 p2 p3 (2 : Int32) (own_rj f1 p2 p3 (1 : Int32) (own_rj f1 p2 p3 (0 : Int32) (0 : Int32)))) from (by first | (simp only [own_rj, eq_false hc60, eq_false hc65, not_true_eq_false, not_false_eq_true, and_true, true_and, and_false, false_and, or_true, true_or, or_false, false_or, if_true, if_false]; done) | simp [own_rj, eq_false hc60, eq_false hc65])] at J
        exact J
  show Gd p.tables e below _ (s₁.setTop (mkF m 77 #[.val (.ref a1), .val (.int p2), .val (.int p3), .val (.int (own_rj f1 p2 p3 (3 : Int32) (own_rj f1 p2 p3 (2 : Int32) (own_rj f1 p2 p3 (1 : Int32) (own_rj f1 p2 p3 (0 : Int32) (0 : Int32))))))] []))
  refine Gd.join (B := s₁.setTop (mkF m 96 #[.val (.ref a1), .val (.int p2), .val (.int p3), .val (.int (own_rj f1 p2 p3 (4 : Int32) (own_rj f1 p2 p3 (3 : Int32) (own_rj f1 p2 p3 (2 : Int32) (own_rj f1 p2 p3 (1 : Int32) (own_rj f1 p2 p3 (0 : Int32) (0 : Int32)))))))] [])) (fun J => ?_) ?_
  · skip
    refine Gd.st (fun _ k => XS.iloadN X0.here hx rfl (hb hby d5_77) rfl k) ?_
    show Gd p.tables e below _ (s₁.setTop (mkF m 78 #[.val (.ref a1), .val (.int p2), .val (.int p3), .val (.int (own_rj f1 p2 p3 (3 : Int32) (own_rj f1 p2 p3 (2 : Int32) (own_rj f1 p2 p3 (1 : Int32) (own_rj f1 p2 p3 (0 : Int32) (0 : Int32))))))] [(.int p2)]))
    refine Gd.st (fun _ k => XS.iconst X0.here hx rfl (hb hby d5_78) k) ?_
    show Gd p.tables e below _ (s₁.setTop (mkF m 79 #[.val (.ref a1), .val (.int p2), .val (.int p3), .val (.int (own_rj f1 p2 p3 (3 : Int32) (own_rj f1 p2 p3 (2 : Int32) (own_rj f1 p2 p3 (1 : Int32) (own_rj f1 p2 p3 (0 : Int32) (0 : Int32))))))] [(.int (4 : Int32)), (.int p2)]))
    by_cases hc79 : (4 : Int32) < p2
    · skip
      refine Gd.st (fun _ k => XS.icmpYes X0.here hx rfl (pc0 := 79) (pc' := 96) rfl (hb hby d5_79) rfl (tlt hc79).2.2.1 (by decide) (by decide) k) ?_
      show Gd p.tables e below _ (s₁.setTop (mkF m 96 #[.val (.ref a1), .val (.int p2), .val (.int p3), .val (.int (own_rj f1 p2 p3 (3 : Int32) (own_rj f1 p2 p3 (2 : Int32) (own_rj f1 p2 p3 (1 : Int32) (own_rj f1 p2 p3 (0 : Int32) (0 : Int32))))))] []))
      rw [show (own_rj f1 p2 p3 (4 : Int32) (own_rj f1 p2 p3 (3 : Int32) (own_rj f1 p2 p3 (2 : Int32) (own_rj f1 p2 p3 (1 : Int32) (own_rj f1 p2 p3 (0 : Int32) (0 : Int32)))))) = (own_rj f1 p2 p3 (3 : Int32) (own_rj f1 p2 p3 (2 : Int32) (own_rj f1 p2 p3 (1 : Int32) (own_rj f1 p2 p3 (0 : Int32) (0 : Int32))))) from (by first | (simp only [own_rj, eq_true hc79, not_true_eq_false, not_false_eq_true, and_true, true_and, and_false, false_and, or_true, true_or, or_false, false_or, if_true, if_false]; done) | simp [own_rj, eq_true hc79])] at J
      exact J
    · skip
      refine Gd.st (fun _ k => XS.icmpNo X0.here hx rfl (hb hby d5_79) rfl (flt hc79).2.2.1 k) ?_
      show Gd p.tables e below _ (s₁.setTop (mkF m 82 #[.val (.ref a1), .val (.int p2), .val (.int p3), .val (.int (own_rj f1 p2 p3 (3 : Int32) (own_rj f1 p2 p3 (2 : Int32) (own_rj f1 p2 p3 (1 : Int32) (own_rj f1 p2 p3 (0 : Int32) (0 : Int32))))))] []))
      refine Gd.st (fun _ k => XS.iconst X0.here hx rfl (hb hby d5_82) k) ?_
      show Gd p.tables e below _ (s₁.setTop (mkF m 83 #[.val (.ref a1), .val (.int p2), .val (.int p3), .val (.int (own_rj f1 p2 p3 (3 : Int32) (own_rj f1 p2 p3 (2 : Int32) (own_rj f1 p2 p3 (1 : Int32) (own_rj f1 p2 p3 (0 : Int32) (0 : Int32))))))] [(.int (4 : Int32))]))
      refine Gd.st (fun _ k => XS.iloadN X0.here hx rfl (hb hby d5_83) rfl k) ?_
      show Gd p.tables e below _ (s₁.setTop (mkF m 84 #[.val (.ref a1), .val (.int p2), .val (.int p3), .val (.int (own_rj f1 p2 p3 (3 : Int32) (own_rj f1 p2 p3 (2 : Int32) (own_rj f1 p2 p3 (1 : Int32) (own_rj f1 p2 p3 (0 : Int32) (0 : Int32))))))] [(.int p3), (.int (4 : Int32))]))
      by_cases hc84 : (4 : Int32) < p3
      · skip
        refine Gd.st (fun _ k => XS.icmpNo X0.here hx rfl (hb hby d5_84) rfl (tlt hc84).2.1 k) ?_
        show Gd p.tables e below _ (s₁.setTop (mkF m 87 #[.val (.ref a1), .val (.int p2), .val (.int p3), .val (.int (own_rj f1 p2 p3 (3 : Int32) (own_rj f1 p2 p3 (2 : Int32) (own_rj f1 p2 p3 (1 : Int32) (own_rj f1 p2 p3 (0 : Int32) (0 : Int32))))))] []))
        refine Gd.st (fun _ k => XS.bipush X0.here hx rfl (hb hby d5_87) k) ?_
        show Gd p.tables e below _ (s₁.setTop (mkF m 89 #[.val (.ref a1), .val (.int p2), .val (.int p3), .val (.int (own_rj f1 p2 p3 (3 : Int32) (own_rj f1 p2 p3 (2 : Int32) (own_rj f1 p2 p3 (1 : Int32) (own_rj f1 p2 p3 (0 : Int32) (0 : Int32))))))] [(.int (31 : Int32))]))
        refine Gd.st (fun _ k => XS.iloadN X0.here hx rfl (hb hby d5_89) rfl k) ?_
        show Gd p.tables e below _ (s₁.setTop (mkF m 90 #[.val (.ref a1), .val (.int p2), .val (.int p3), .val (.int (own_rj f1 p2 p3 (3 : Int32) (own_rj f1 p2 p3 (2 : Int32) (own_rj f1 p2 p3 (1 : Int32) (own_rj f1 p2 p3 (0 : Int32) (0 : Int32))))))] [(.int (own_rj f1 p2 p3 (3 : Int32) (own_rj f1 p2 p3 (2 : Int32) (own_rj f1 p2 p3 (1 : Int32) (own_rj f1 p2 p3 (0 : Int32) (0 : Int32)))))), (.int (31 : Int32))]))
        refine Gd.st (fun _ k => XS.imul X0.here hx rfl (hb hby d5_90) rfl k) ?_
        show Gd p.tables e below _ (s₁.setTop (mkF m 91 #[.val (.ref a1), .val (.int p2), .val (.int p3), .val (.int (own_rj f1 p2 p3 (3 : Int32) (own_rj f1 p2 p3 (2 : Int32) (own_rj f1 p2 p3 (1 : Int32) (own_rj f1 p2 p3 (0 : Int32) (0 : Int32))))))] [(.int ((31 : Int32) * (own_rj f1 p2 p3 (3 : Int32) (own_rj f1 p2 p3 (2 : Int32) (own_rj f1 p2 p3 (1 : Int32) (own_rj f1 p2 p3 (0 : Int32) (0 : Int32)))))))]))
        refine Gd.st (fun _ k => XS.aloadN X0.here hx rfl (hb hby d5_91) rfl rfl k) ?_
        show Gd p.tables e below _ (s₁.setTop (mkF m 92 #[.val (.ref a1), .val (.int p2), .val (.int p3), .val (.int (own_rj f1 p2 p3 (3 : Int32) (own_rj f1 p2 p3 (2 : Int32) (own_rj f1 p2 p3 (1 : Int32) (own_rj f1 p2 p3 (0 : Int32) (0 : Int32))))))] [(.ref a1), (.int ((31 : Int32) * (own_rj f1 p2 p3 (3 : Int32) (own_rj f1 p2 p3 (2 : Int32) (own_rj f1 p2 p3 (1 : Int32) (own_rj f1 p2 p3 (0 : Int32) (0 : Int32)))))))]))
        refine Gd.st (fun _ k => XS.iconst X0.here hx rfl (hb hby d5_92) k) ?_
        show Gd p.tables e below _ (s₁.setTop (mkF m 93 #[.val (.ref a1), .val (.int p2), .val (.int p3), .val (.int (own_rj f1 p2 p3 (3 : Int32) (own_rj f1 p2 p3 (2 : Int32) (own_rj f1 p2 p3 (1 : Int32) (own_rj f1 p2 p3 (0 : Int32) (0 : Int32))))))] [(.int (4 : Int32)), (.ref a1), (.int ((31 : Int32) * (own_rj f1 p2 p3 (3 : Int32) (own_rj f1 p2 p3 (2 : Int32) (own_rj f1 p2 p3 (1 : Int32) (own_rj f1 p2 p3 (0 : Int32) (0 : Int32)))))))]))
        obtain ⟨cl_5, Ar_5, q_5, S_5, N_5, H_5, G_5⟩ := id V0
        have hin_5 : ¬ ((4 : Int32) < 0 ∨ cl_5.slots.size ≤ ((4 : Int32)).toNatClampNeg) := inb_of S_5 (⟨by decide, by decide⟩)
        have hat_5 : cl_5.slots[((4 : Int32)).toNatClampNeg]? = some (.int (f1 ((4 : Int32)).toNatClampNeg)) := H_5.at hin_5 (own_get _ _ (own_lt _ (⟨by decide, by decide⟩)))
        refine Gd.st (fun _ k => X0.baloadBytes hx (j := (4 : Int32)) (v := (.int (f1 ((4 : Int32)).toNatClampNeg))) (by rw [e0]; exact Ar_5.1) (State.isArrayOf_alike hZ.alike Ar_5.2.1) Ar_5.2.2 hin_5 hat_5 (g := (mkF m 93 #[.val (.ref a1), .val (.int p2), .val (.int p3), .val (.int (own_rj f1 p2 p3 (3 : Int32) (own_rj f1 p2 p3 (2 : Int32) (own_rj f1 p2 p3 (1 : Int32) (own_rj f1 p2 p3 (0 : Int32) (0 : Int32))))))] [(.int (4 : Int32)), (.ref a1), (.int ((31 : Int32) * (own_rj f1 p2 p3 (3 : Int32) (own_rj f1 p2 p3 (2 : Int32) (own_rj f1 p2 p3 (1 : Int32) (own_rj f1 p2 p3 (0 : Int32) (0 : Int32)))))))])) rfl rfl (hb hby d5_93) _ k) ?_
        show Gd p.tables e below _ (s₁.setTop (mkF m 94 #[.val (.ref a1), .val (.int p2), .val (.int p3), .val (.int (own_rj f1 p2 p3 (3 : Int32) (own_rj f1 p2 p3 (2 : Int32) (own_rj f1 p2 p3 (1 : Int32) (own_rj f1 p2 p3 (0 : Int32) (0 : Int32))))))] [(.int (f1 ((4 : Int32)).toNatClampNeg)), (.int ((31 : Int32) * (own_rj f1 p2 p3 (3 : Int32) (own_rj f1 p2 p3 (2 : Int32) (own_rj f1 p2 p3 (1 : Int32) (own_rj f1 p2 p3 (0 : Int32) (0 : Int32)))))))]))
        refine Gd.st (fun _ k => XS.iadd X0.here hx rfl (hb hby d5_94) rfl k) ?_
        show Gd p.tables e below _ (s₁.setTop (mkF m 95 #[.val (.ref a1), .val (.int p2), .val (.int p3), .val (.int (own_rj f1 p2 p3 (3 : Int32) (own_rj f1 p2 p3 (2 : Int32) (own_rj f1 p2 p3 (1 : Int32) (own_rj f1 p2 p3 (0 : Int32) (0 : Int32))))))] [(.int (((31 : Int32) * (own_rj f1 p2 p3 (3 : Int32) (own_rj f1 p2 p3 (2 : Int32) (own_rj f1 p2 p3 (1 : Int32) (own_rj f1 p2 p3 (0 : Int32) (0 : Int32)))))) + (f1 ((4 : Int32)).toNatClampNeg)))]))
        refine Gd.st (fun _ k => XS.istoreN X0.here hx rfl (hb hby d5_95) rfl (l' := #[.val (.ref a1), .val (.int p2), .val (.int p3), .val (.int (((31 : Int32) * (own_rj f1 p2 p3 (3 : Int32) (own_rj f1 p2 p3 (2 : Int32) (own_rj f1 p2 p3 (1 : Int32) (own_rj f1 p2 p3 (0 : Int32) (0 : Int32)))))) + (f1 ((4 : Int32)).toNatClampNeg)))]) rfl k) ?_
        show Gd p.tables e below _ (s₁.setTop (mkF m 96 #[.val (.ref a1), .val (.int p2), .val (.int p3), .val (.int (((31 : Int32) * (own_rj f1 p2 p3 (3 : Int32) (own_rj f1 p2 p3 (2 : Int32) (own_rj f1 p2 p3 (1 : Int32) (own_rj f1 p2 p3 (0 : Int32) (0 : Int32)))))) + (f1 ((4 : Int32)).toNatClampNeg)))] []))
        rw [show (own_rj f1 p2 p3 (4 : Int32) (own_rj f1 p2 p3 (3 : Int32) (own_rj f1 p2 p3 (2 : Int32) (own_rj f1 p2 p3 (1 : Int32) (own_rj f1 p2 p3 (0 : Int32) (0 : Int32)))))) = (((31 : Int32) * (own_rj f1 p2 p3 (3 : Int32) (own_rj f1 p2 p3 (2 : Int32) (own_rj f1 p2 p3 (1 : Int32) (own_rj f1 p2 p3 (0 : Int32) (0 : Int32)))))) + (f1 ((4 : Int32)).toNatClampNeg)) from (by first | (simp only [own_rj, eq_false hc79, eq_true hc84, not_true_eq_false, not_false_eq_true, and_true, true_and, and_false, false_and, or_true, true_or, or_false, false_or, if_true, if_false]; done) | simp [own_rj, eq_false hc79, eq_true hc84])] at J
        exact J
      · skip
        refine Gd.st (fun _ k => XS.icmpYes X0.here hx rfl (pc0 := 84) (pc' := 96) rfl (hb hby d5_84) rfl (flt hc84).2.1 (by decide) (by decide) k) ?_
        show Gd p.tables e below _ (s₁.setTop (mkF m 96 #[.val (.ref a1), .val (.int p2), .val (.int p3), .val (.int (own_rj f1 p2 p3 (3 : Int32) (own_rj f1 p2 p3 (2 : Int32) (own_rj f1 p2 p3 (1 : Int32) (own_rj f1 p2 p3 (0 : Int32) (0 : Int32))))))] []))
        rw [show (own_rj f1 p2 p3 (4 : Int32) (own_rj f1 p2 p3 (3 : Int32) (own_rj f1 p2 p3 (2 : Int32) (own_rj f1 p2 p3 (1 : Int32) (own_rj f1 p2 p3 (0 : Int32) (0 : Int32)))))) = (own_rj f1 p2 p3 (3 : Int32) (own_rj f1 p2 p3 (2 : Int32) (own_rj f1 p2 p3 (1 : Int32) (own_rj f1 p2 p3 (0 : Int32) (0 : Int32))))) from (by first | (simp only [own_rj, eq_false hc79, eq_false hc84, not_true_eq_false, not_false_eq_true, and_true, true_and, and_false, false_and, or_true, true_or, or_false, false_or, if_true, if_false]; done) | simp [own_rj, eq_false hc79, eq_false hc84])] at J
        exact J
  show Gd p.tables e below _ (s₁.setTop (mkF m 96 #[.val (.ref a1), .val (.int p2), .val (.int p3), .val (.int (own_rj f1 p2 p3 (4 : Int32) (own_rj f1 p2 p3 (3 : Int32) (own_rj f1 p2 p3 (2 : Int32) (own_rj f1 p2 p3 (1 : Int32) (own_rj f1 p2 p3 (0 : Int32) (0 : Int32)))))))] []))
  refine Gd.st (fun _ k => XS.iloadN X0.here hx rfl (hb hby d5_96) rfl k) ?_
  show Gd p.tables e below _ (s₁.setTop (mkF m 97 #[.val (.ref a1), .val (.int p2), .val (.int p3), .val (.int (own_rj f1 p2 p3 (4 : Int32) (own_rj f1 p2 p3 (3 : Int32) (own_rj f1 p2 p3 (2 : Int32) (own_rj f1 p2 p3 (1 : Int32) (own_rj f1 p2 p3 (0 : Int32) (0 : Int32)))))))] [(.int (own_rj f1 p2 p3 (4 : Int32) (own_rj f1 p2 p3 (3 : Int32) (own_rj f1 p2 p3 (2 : Int32) (own_rj f1 p2 p3 (1 : Int32) (own_rj f1 p2 p3 (0 : Int32) (0 : Int32)))))))]))
  obtain ⟨fs, hr, hrun, hended, hW, hsame⟩ := X0.leave (v := some (.int (own_rj f1 p2 p3 (4 : Int32) (own_rj f1 p2 p3 (3 : Int32) (own_rj f1 p2 p3 (2 : Int32) (own_rj f1 p2 p3 (1 : Int32) (own_rj f1 p2 p3 (0 : Int32) (0 : Int32)))))))) (fun h => by rw [Bd.returns] at h; cases h) Bd.notSynchronized
  refine Gd.mk (o := .returned (some (.int (own_rj f1 p2 p3 (4 : Int32) (own_rj f1 p2 p3 (3 : Int32) (own_rj f1 p2 p3 (2 : Int32) (own_rj f1 p2 p3 (1 : Int32) (own_rj f1 p2 p3 (0 : Int32) (0 : Int32))))))))) (retI X0 hx Bd.returns (hb hby d5_97) hr) ⟨hrun, hended, _, _, rfl, ?_, ⟨_, rfl⟩, hW, hsame.mono (by decide) (by decide)⟩
  show Q5 Z a1 p2 p3 k1 f1 h0 n0 _ s₁.heap _
  rw [e0]
  exact ⟨rfl, N0, rfl⟩
theorem ef_0 (m : MethodId) (x0 : Int32) (x1 : Int32) (x2 : Int32) (x3 : Int32) : entryFrame m #[(.int x0), (.int x1), (.int x2), (.int x3)] maxLocals = mkF m 0 #[.val (.int x0), .val (.int x1), .val (.int x2), .val (.int x3), .unset, .unset, .unset, .unset, .unset, .unset, .unset, .unset, .unset] [] := by first | (simp [entryFrame, mkF, argsToLocals, Value.category, maxLocals]; done) | rfl
theorem pd___I_3 : parseMethodDescriptor "()I" = some ⟨[], some .int⟩ := by decide +kernel
theorem pd__ABII_I_7 : parseMethodDescriptor "([BII)I" = some ⟨[(.array .byte), .int, .int], some .int⟩ := by decide +kernel
def Q0 (Z : State) (p1 : Int32) (p2 : Int32) (p3 : Int32) (p4 : Int32) (h0 : Heap) (n0 : Nat) (v : Option Value) (h : Heap) (L : List Loc) : Prop := v = some (.int (1 : Int32)) ∧ Fr n0 L
set_option maxRecDepth 65536 in
set_option maxHeartbeats 40000000 in
theorem rm0 (l : Launch) (Z : State) (a0 : Array Value) (hw : ∀ d ∈ tables_1, d.before a0 Z = true) (ws : List Jvm.Cond) (p1 : Int32) (p2 : Int32) (p3 : Int32) (p4 : Int32) (h0 : Heap) (n0 : Nat) (Z0 : n0 ≤ h0.size) :
    MetFree l x (head1 (Jvm.Cond.code x code maxLocals ret :: ws) room_1) (fun a U => a = #[(.int p1), (.int p2), (.int p3), (.int p4)] ∧ Z.Warmed39 U.vm ∧ U.heap = h0) (fun _ _ _ _ _ => True) (fun _ U o U' => ∃ v L, o = .returned v ∧ Q0 Z p1 p2 p3 p4 h0 n0 v U'.heap L ∧ FrameEnd U o U' L room_1.cells room_1.slots) := by
  refine MetFree.of_bodySF (plainFor_of_name pn_AsciiTextHashCodePinLaw) hisR ?_
  intro p e s m args below meth c s₁ Bd hml0 hP hK
  obtain ⟨rfl, hZ, hh⟩ := hP
  have hx := Bd.exec
  have hby := Bd.bytes
  have hml : c.maxLocals = 13 := hml0
  have hown : s.vm.findClass "com/example/hereafter/hereafter/io/AsciiTextHashCodePinLaw" = some m.cls := findClass_of_methodNamed Bd.named
  have hnm := (name_of_methodNamed Bd.named Bd.method).1
  have X0 : Stand p l e room_1 s m #[(.int p1), (.int p2), (.int p3), (.int p4)] below meth c s₁ [] 0 0 := Stand.of_body Bd
  have e0 : s₁.heap = h0 := by rw [← hh, Bd.state]; rfl
  have N0 := Fr.nil n0
  refine Gd.out (Gd.st (fun t k => castTop (ef_0 m p1 p2 p3 p4) k) ?_)
  show Gd p.tables e below _ (s₁.setTop (mkF m 0 #[.val (.int p1), .val (.int p2), .val (.int p3), .val (.int p4), .unset, .unset, .unset, .unset, .unset, .unset, .unset, .unset, .unset] []))
  refine Gd.st (fun _ k => XS.iconst X0.here hx rfl (hb hby at_0) k) ?_
  show Gd p.tables e below _ (s₁.setTop (mkF m 1 #[.val (.int p1), .val (.int p2), .val (.int p3), .val (.int p4), .unset, .unset, .unset, .unset, .unset, .unset, .unset, .unset, .unset] [(.int (5 : Int32))]))
  obtain ⟨T1, h1, k1, X1, e1, E1, A1, st1⟩ := newP X0 hx hZ (hw _ (List.mem_of_getElem? (i := 0) rfl)) e0 (g := (mkF m 1 #[.val (.int p1), .val (.int p2), .val (.int p3), .val (.int p4), .unset, .unset, .unset, .unset, .unset, .unset, .unset, .unset, .unset] [(.int (5 : Int32))])) rfl (hb hby at_1) rfl (by decide) (cap := 5) (by decide) (by decide) (by decide) (by decide)
  obtain ⟨b1, g1⟩ : ∃ z, z = h0.size := ⟨_, rfl⟩
  rw [← g1] at A1 st1
  refine Gd.st st1 ?_
  have g_b1 : n0 ≤ b1 := Nat.le_trans Z0 (Nat.le_of_eq g1.symm)
  have Z2 : n0 ≤ h1.size := Nat.le_trans Z0 E1.1
  have V_b1 : Arv Z h1 b1 k1 .byte (5 : Int32) [(.int (0 : Int32)), (.int (0 : Int32)), (.int (0 : Int32)), (.int (0 : Int32)), (.int (0 : Int32))] (.int (0 : Int32)) := (Arv.new A1 (by decide)).pad (pad_rep [] (.int (0 : Int32)) 5)
  show Gd p.tables e below _ (T1.setTop (mkF m 3 #[.val (.int p1), .val (.int p2), .val (.int p3), .val (.int p4), .unset, .unset, .unset, .unset, .unset, .unset, .unset, .unset, .unset] [(.ref b1)]))
  refine Gd.st (fun _ k => XS.astore X1.here hx rfl (hb hby at_3) rfl rfl (l' := #[.val (.int p1), .val (.int p2), .val (.int p3), .val (.int p4), .val (.ref b1), .unset, .unset, .unset, .unset, .unset, .unset, .unset, .unset]) rfl k) ?_
  show Gd p.tables e below _ (T1.setTop (mkF m 5 #[.val (.int p1), .val (.int p2), .val (.int p3), .val (.int p4), .val (.ref b1), .unset, .unset, .unset, .unset, .unset, .unset, .unset, .unset] []))
  refine Gd.st (fun _ k => XS.aload X1.here hx rfl (hb hby at_5) rfl rfl k) ?_
  show Gd p.tables e below _ (T1.setTop (mkF m 7 #[.val (.int p1), .val (.int p2), .val (.int p3), .val (.int p4), .val (.ref b1), .unset, .unset, .unset, .unset, .unset, .unset, .unset, .unset] [(.ref b1)]))
  refine Gd.st (fun _ k => XS.iconst X1.here hx rfl (hb hby at_7) k) ?_
  show Gd p.tables e below _ (T1.setTop (mkF m 8 #[.val (.int p1), .val (.int p2), .val (.int p3), .val (.int p4), .val (.ref b1), .unset, .unset, .unset, .unset, .unset, .unset, .unset, .unset] [(.int (0 : Int32)), (.ref b1)]))
  refine Gd.st (fun _ k => XS.iloadN X1.here hx rfl (hb hby at_8) rfl k) ?_
  show Gd p.tables e below _ (T1.setTop (mkF m 9 #[.val (.int p1), .val (.int p2), .val (.int p3), .val (.int p4), .val (.ref b1), .unset, .unset, .unset, .unset, .unset, .unset, .unset, .unset] [(.int p1), (.int (0 : Int32)), (.ref b1)]))
  refine Gd.st (fun _ k => XS.bipush X1.here hx rfl (hb hby at_9) k) ?_
  show Gd p.tables e below _ (T1.setTop (mkF m 11 #[.val (.int p1), .val (.int p2), .val (.int p3), .val (.int p4), .val (.ref b1), .unset, .unset, .unset, .unset, .unset, .unset, .unset, .unset] [(.int (127 : Int32)), (.int p1), (.int (0 : Int32)), (.ref b1)]))
  refine Gd.st (fun _ k => XS.iand X1.here hx rfl (hb hby at_11) rfl k) ?_
  show Gd p.tables e below _ (T1.setTop (mkF m 12 #[.val (.int p1), .val (.int p2), .val (.int p3), .val (.int p4), .val (.ref b1), .unset, .unset, .unset, .unset, .unset, .unset, .unset, .unset] [(.int (p1 &&& (127 : Int32))), (.int (0 : Int32)), (.ref b1)]))
  refine Gd.st (fun _ k => XS.i2b X1.here hx rfl (hb hby at_12) rfl k) ?_
  show Gd p.tables e below _ (T1.setTop (mkF m 13 #[.val (.int p1), .val (.int p2), .val (.int p3), .val (.int p4), .val (.ref b1), .unset, .unset, .unset, .unset, .unset, .unset, .unset, .unset] [(.int ((p1 &&& (127 : Int32)).toInt8.toInt32)), (.int (0 : Int32)), (.ref b1)]))
  obtain ⟨cl_3, Ar_3, q_3, S_3, N_3, H_3, G_3⟩ := id V_b1
  have hin_3 : ¬ ((0 : Int32) < 0 ∨ cl_3.slots.size ≤ ((0 : Int32)).toNatClampNeg) := inb_of S_3 ⟨by decide, by decide⟩
  obtain ⟨T3, h3, X3, e3, W3, st3⟩ := stB X1 hx hZ e1 Ar_3 (j := (0 : Int32)) hin_3 (g := (mkF m 13 #[.val (.int p1), .val (.int p2), .val (.int p3), .val (.int p4), .val (.ref b1), .unset, .unset, .unset, .unset, .unset, .unset, .unset, .unset] [(.int ((p1 &&& (127 : Int32)).toInt8.toInt32)), (.int (0 : Int32)), (.ref b1)])) rfl rfl (hb hby at_13)
  refine Gd.st st3 ?_
  have Va_3 : Arv Z h3 b1 k1 .byte (5 : Int32) [(.int (((p1 &&& (127 : Int32)).toInt8.toInt32)).toInt8.toInt32), (.int (0 : Int32)), (.int (0 : Int32)), (.int (0 : Int32)), (.int (0 : Int32))] (.int (0 : Int32)) := Arv.set Ar_3 q_3 S_3 N_3 H_3 G_3 (fits_nar_byte _) W3 0 rfl (Nat.le_of_ble_eq_true rfl)
  have N3 := Fr.snoc X3 N0 g_b1
  have Z4 : n0 ≤ h3.size := Nat.le_trans Z2 (Keep.of_wr W3).1
  show Gd p.tables e below _ (T3.setTop (mkF m 14 #[.val (.int p1), .val (.int p2), .val (.int p3), .val (.int p4), .val (.ref b1), .unset, .unset, .unset, .unset, .unset, .unset, .unset, .unset] []))
  refine Gd.st (fun _ k => XS.aload X3.here hx rfl (hb hby at_14) rfl rfl k) ?_
  show Gd p.tables e below _ (T3.setTop (mkF m 16 #[.val (.int p1), .val (.int p2), .val (.int p3), .val (.int p4), .val (.ref b1), .unset, .unset, .unset, .unset, .unset, .unset, .unset, .unset] [(.ref b1)]))
  refine Gd.st (fun _ k => XS.iconst X3.here hx rfl (hb hby at_16) k) ?_
  show Gd p.tables e below _ (T3.setTop (mkF m 17 #[.val (.int p1), .val (.int p2), .val (.int p3), .val (.int p4), .val (.ref b1), .unset, .unset, .unset, .unset, .unset, .unset, .unset, .unset] [(.int (1 : Int32)), (.ref b1)]))
  refine Gd.st (fun _ k => XS.iloadN X3.here hx rfl (hb hby at_17) rfl k) ?_
  show Gd p.tables e below _ (T3.setTop (mkF m 18 #[.val (.int p1), .val (.int p2), .val (.int p3), .val (.int p4), .val (.ref b1), .unset, .unset, .unset, .unset, .unset, .unset, .unset, .unset] [(.int p1), (.int (1 : Int32)), (.ref b1)]))
  refine Gd.st (fun _ k => XS.bipush X3.here hx rfl (hb hby at_18) k) ?_
  show Gd p.tables e below _ (T3.setTop (mkF m 20 #[.val (.int p1), .val (.int p2), .val (.int p3), .val (.int p4), .val (.ref b1), .unset, .unset, .unset, .unset, .unset, .unset, .unset, .unset] [(.int (8 : Int32)), (.int p1), (.int (1 : Int32)), (.ref b1)]))
  refine Gd.st (fun _ k => XS.iushr X3.here hx rfl (hb hby at_20) rfl k) ?_
  show Gd p.tables e below _ (T3.setTop (mkF m 21 #[.val (.int p1), .val (.int p2), .val (.int p3), .val (.int p4), .val (.ref b1), .unset, .unset, .unset, .unset, .unset, .unset, .unset, .unset] [(.int ((p1.toUInt32 >>> ((8 : Int32) &&& 31).toUInt32).toInt32)), (.int (1 : Int32)), (.ref b1)]))
  refine Gd.st (fun _ k => XS.bipush X3.here hx rfl (hb hby at_21) k) ?_
  show Gd p.tables e below _ (T3.setTop (mkF m 23 #[.val (.int p1), .val (.int p2), .val (.int p3), .val (.int p4), .val (.ref b1), .unset, .unset, .unset, .unset, .unset, .unset, .unset, .unset] [(.int (127 : Int32)), (.int ((p1.toUInt32 >>> ((8 : Int32) &&& 31).toUInt32).toInt32)), (.int (1 : Int32)), (.ref b1)]))
  refine Gd.st (fun _ k => XS.iand X3.here hx rfl (hb hby at_23) rfl k) ?_
  show Gd p.tables e below _ (T3.setTop (mkF m 24 #[.val (.int p1), .val (.int p2), .val (.int p3), .val (.int p4), .val (.ref b1), .unset, .unset, .unset, .unset, .unset, .unset, .unset, .unset] [(.int (((p1.toUInt32 >>> ((8 : Int32) &&& 31).toUInt32).toInt32) &&& (127 : Int32))), (.int (1 : Int32)), (.ref b1)]))
  refine Gd.st (fun _ k => XS.i2b X3.here hx rfl (hb hby at_24) rfl k) ?_
  show Gd p.tables e below _ (T3.setTop (mkF m 25 #[.val (.int p1), .val (.int p2), .val (.int p3), .val (.int p4), .val (.ref b1), .unset, .unset, .unset, .unset, .unset, .unset, .unset, .unset] [(.int ((((p1.toUInt32 >>> ((8 : Int32) &&& 31).toUInt32).toInt32) &&& (127 : Int32)).toInt8.toInt32)), (.int (1 : Int32)), (.ref b1)]))
  obtain ⟨cl_5, Ar_5, q_5, S_5, N_5, H_5, G_5⟩ := id Va_3
  have hin_5 : ¬ ((1 : Int32) < 0 ∨ cl_5.slots.size ≤ ((1 : Int32)).toNatClampNeg) := inb_of S_5 ⟨by decide, by decide⟩
  obtain ⟨T5, h5, X5, e5, W5, st5⟩ := stB X3 hx hZ e3 Ar_5 (j := (1 : Int32)) hin_5 (g := (mkF m 25 #[.val (.int p1), .val (.int p2), .val (.int p3), .val (.int p4), .val (.ref b1), .unset, .unset, .unset, .unset, .unset, .unset, .unset, .unset] [(.int ((((p1.toUInt32 >>> ((8 : Int32) &&& 31).toUInt32).toInt32) &&& (127 : Int32)).toInt8.toInt32)), (.int (1 : Int32)), (.ref b1)])) rfl rfl (hb hby at_25)
  refine Gd.st st5 ?_
  have Va_5 : Arv Z h5 b1 k1 .byte (5 : Int32) [(.int (((p1 &&& (127 : Int32)).toInt8.toInt32)).toInt8.toInt32), (.int (((((p1.toUInt32 >>> ((8 : Int32) &&& 31).toUInt32).toInt32) &&& (127 : Int32)).toInt8.toInt32)).toInt8.toInt32), (.int (0 : Int32)), (.int (0 : Int32)), (.int (0 : Int32))] (.int (0 : Int32)) := Arv.set Ar_5 q_5 S_5 N_5 H_5 G_5 (fits_nar_byte _) W5 1 rfl (Nat.le_of_ble_eq_true rfl)
  have N5 := Fr.snoc X5 N3 g_b1
  have Z6 : n0 ≤ h5.size := Nat.le_trans Z4 (Keep.of_wr W5).1
  show Gd p.tables e below _ (T5.setTop (mkF m 26 #[.val (.int p1), .val (.int p2), .val (.int p3), .val (.int p4), .val (.ref b1), .unset, .unset, .unset, .unset, .unset, .unset, .unset, .unset] []))
  refine Gd.st (fun _ k => XS.aload X5.here hx rfl (hb hby at_26) rfl rfl k) ?_
  show Gd p.tables e below _ (T5.setTop (mkF m 28 #[.val (.int p1), .val (.int p2), .val (.int p3), .val (.int p4), .val (.ref b1), .unset, .unset, .unset, .unset, .unset, .unset, .unset, .unset] [(.ref b1)]))
  refine Gd.st (fun _ k => XS.iconst X5.here hx rfl (hb hby at_28) k) ?_
  show Gd p.tables e below _ (T5.setTop (mkF m 29 #[.val (.int p1), .val (.int p2), .val (.int p3), .val (.int p4), .val (.ref b1), .unset, .unset, .unset, .unset, .unset, .unset, .unset, .unset] [(.int (2 : Int32)), (.ref b1)]))
  refine Gd.st (fun _ k => XS.iloadN X5.here hx rfl (hb hby at_29) rfl k) ?_
  show Gd p.tables e below _ (T5.setTop (mkF m 30 #[.val (.int p1), .val (.int p2), .val (.int p3), .val (.int p4), .val (.ref b1), .unset, .unset, .unset, .unset, .unset, .unset, .unset, .unset] [(.int p1), (.int (2 : Int32)), (.ref b1)]))
  refine Gd.st (fun _ k => XS.bipush X5.here hx rfl (hb hby at_30) k) ?_
  show Gd p.tables e below _ (T5.setTop (mkF m 32 #[.val (.int p1), .val (.int p2), .val (.int p3), .val (.int p4), .val (.ref b1), .unset, .unset, .unset, .unset, .unset, .unset, .unset, .unset] [(.int (16 : Int32)), (.int p1), (.int (2 : Int32)), (.ref b1)]))
  refine Gd.st (fun _ k => XS.iushr X5.here hx rfl (hb hby at_32) rfl k) ?_
  show Gd p.tables e below _ (T5.setTop (mkF m 33 #[.val (.int p1), .val (.int p2), .val (.int p3), .val (.int p4), .val (.ref b1), .unset, .unset, .unset, .unset, .unset, .unset, .unset, .unset] [(.int ((p1.toUInt32 >>> ((16 : Int32) &&& 31).toUInt32).toInt32)), (.int (2 : Int32)), (.ref b1)]))
  refine Gd.st (fun _ k => XS.bipush X5.here hx rfl (hb hby at_33) k) ?_
  show Gd p.tables e below _ (T5.setTop (mkF m 35 #[.val (.int p1), .val (.int p2), .val (.int p3), .val (.int p4), .val (.ref b1), .unset, .unset, .unset, .unset, .unset, .unset, .unset, .unset] [(.int (127 : Int32)), (.int ((p1.toUInt32 >>> ((16 : Int32) &&& 31).toUInt32).toInt32)), (.int (2 : Int32)), (.ref b1)]))
  refine Gd.st (fun _ k => XS.iand X5.here hx rfl (hb hby at_35) rfl k) ?_
  show Gd p.tables e below _ (T5.setTop (mkF m 36 #[.val (.int p1), .val (.int p2), .val (.int p3), .val (.int p4), .val (.ref b1), .unset, .unset, .unset, .unset, .unset, .unset, .unset, .unset] [(.int (((p1.toUInt32 >>> ((16 : Int32) &&& 31).toUInt32).toInt32) &&& (127 : Int32))), (.int (2 : Int32)), (.ref b1)]))
  refine Gd.st (fun _ k => XS.i2b X5.here hx rfl (hb hby at_36) rfl k) ?_
  show Gd p.tables e below _ (T5.setTop (mkF m 37 #[.val (.int p1), .val (.int p2), .val (.int p3), .val (.int p4), .val (.ref b1), .unset, .unset, .unset, .unset, .unset, .unset, .unset, .unset] [(.int ((((p1.toUInt32 >>> ((16 : Int32) &&& 31).toUInt32).toInt32) &&& (127 : Int32)).toInt8.toInt32)), (.int (2 : Int32)), (.ref b1)]))
  obtain ⟨cl_7, Ar_7, q_7, S_7, N_7, H_7, G_7⟩ := id Va_5
  have hin_7 : ¬ ((2 : Int32) < 0 ∨ cl_7.slots.size ≤ ((2 : Int32)).toNatClampNeg) := inb_of S_7 ⟨by decide, by decide⟩
  obtain ⟨T7, h7, X7, e7, W7, st7⟩ := stB X5 hx hZ e5 Ar_7 (j := (2 : Int32)) hin_7 (g := (mkF m 37 #[.val (.int p1), .val (.int p2), .val (.int p3), .val (.int p4), .val (.ref b1), .unset, .unset, .unset, .unset, .unset, .unset, .unset, .unset] [(.int ((((p1.toUInt32 >>> ((16 : Int32) &&& 31).toUInt32).toInt32) &&& (127 : Int32)).toInt8.toInt32)), (.int (2 : Int32)), (.ref b1)])) rfl rfl (hb hby at_37)
  refine Gd.st st7 ?_
  have Va_7 : Arv Z h7 b1 k1 .byte (5 : Int32) [(.int (((p1 &&& (127 : Int32)).toInt8.toInt32)).toInt8.toInt32), (.int (((((p1.toUInt32 >>> ((8 : Int32) &&& 31).toUInt32).toInt32) &&& (127 : Int32)).toInt8.toInt32)).toInt8.toInt32), (.int (((((p1.toUInt32 >>> ((16 : Int32) &&& 31).toUInt32).toInt32) &&& (127 : Int32)).toInt8.toInt32)).toInt8.toInt32), (.int (0 : Int32)), (.int (0 : Int32))] (.int (0 : Int32)) := Arv.set Ar_7 q_7 S_7 N_7 H_7 G_7 (fits_nar_byte _) W7 2 rfl (Nat.le_of_ble_eq_true rfl)
  have N7 := Fr.snoc X7 N5 g_b1
  have Z8 : n0 ≤ h7.size := Nat.le_trans Z6 (Keep.of_wr W7).1
  show Gd p.tables e below _ (T7.setTop (mkF m 38 #[.val (.int p1), .val (.int p2), .val (.int p3), .val (.int p4), .val (.ref b1), .unset, .unset, .unset, .unset, .unset, .unset, .unset, .unset] []))
  refine Gd.st (fun _ k => XS.aload X7.here hx rfl (hb hby at_38) rfl rfl k) ?_
  show Gd p.tables e below _ (T7.setTop (mkF m 40 #[.val (.int p1), .val (.int p2), .val (.int p3), .val (.int p4), .val (.ref b1), .unset, .unset, .unset, .unset, .unset, .unset, .unset, .unset] [(.ref b1)]))
  refine Gd.st (fun _ k => XS.iconst X7.here hx rfl (hb hby at_40) k) ?_
  show Gd p.tables e below _ (T7.setTop (mkF m 41 #[.val (.int p1), .val (.int p2), .val (.int p3), .val (.int p4), .val (.ref b1), .unset, .unset, .unset, .unset, .unset, .unset, .unset, .unset] [(.int (3 : Int32)), (.ref b1)]))
  refine Gd.st (fun _ k => XS.iloadN X7.here hx rfl (hb hby at_41) rfl k) ?_
  show Gd p.tables e below _ (T7.setTop (mkF m 42 #[.val (.int p1), .val (.int p2), .val (.int p3), .val (.int p4), .val (.ref b1), .unset, .unset, .unset, .unset, .unset, .unset, .unset, .unset] [(.int p1), (.int (3 : Int32)), (.ref b1)]))
  refine Gd.st (fun _ k => XS.bipush X7.here hx rfl (hb hby at_42) k) ?_
  show Gd p.tables e below _ (T7.setTop (mkF m 44 #[.val (.int p1), .val (.int p2), .val (.int p3), .val (.int p4), .val (.ref b1), .unset, .unset, .unset, .unset, .unset, .unset, .unset, .unset] [(.int (24 : Int32)), (.int p1), (.int (3 : Int32)), (.ref b1)]))
  refine Gd.st (fun _ k => XS.iushr X7.here hx rfl (hb hby at_44) rfl k) ?_
  show Gd p.tables e below _ (T7.setTop (mkF m 45 #[.val (.int p1), .val (.int p2), .val (.int p3), .val (.int p4), .val (.ref b1), .unset, .unset, .unset, .unset, .unset, .unset, .unset, .unset] [(.int ((p1.toUInt32 >>> ((24 : Int32) &&& 31).toUInt32).toInt32)), (.int (3 : Int32)), (.ref b1)]))
  refine Gd.st (fun _ k => XS.bipush X7.here hx rfl (hb hby at_45) k) ?_
  show Gd p.tables e below _ (T7.setTop (mkF m 47 #[.val (.int p1), .val (.int p2), .val (.int p3), .val (.int p4), .val (.ref b1), .unset, .unset, .unset, .unset, .unset, .unset, .unset, .unset] [(.int (127 : Int32)), (.int ((p1.toUInt32 >>> ((24 : Int32) &&& 31).toUInt32).toInt32)), (.int (3 : Int32)), (.ref b1)]))
  refine Gd.st (fun _ k => XS.iand X7.here hx rfl (hb hby at_47) rfl k) ?_
  show Gd p.tables e below _ (T7.setTop (mkF m 48 #[.val (.int p1), .val (.int p2), .val (.int p3), .val (.int p4), .val (.ref b1), .unset, .unset, .unset, .unset, .unset, .unset, .unset, .unset] [(.int (((p1.toUInt32 >>> ((24 : Int32) &&& 31).toUInt32).toInt32) &&& (127 : Int32))), (.int (3 : Int32)), (.ref b1)]))
  refine Gd.st (fun _ k => XS.i2b X7.here hx rfl (hb hby at_48) rfl k) ?_
  show Gd p.tables e below _ (T7.setTop (mkF m 49 #[.val (.int p1), .val (.int p2), .val (.int p3), .val (.int p4), .val (.ref b1), .unset, .unset, .unset, .unset, .unset, .unset, .unset, .unset] [(.int ((((p1.toUInt32 >>> ((24 : Int32) &&& 31).toUInt32).toInt32) &&& (127 : Int32)).toInt8.toInt32)), (.int (3 : Int32)), (.ref b1)]))
  obtain ⟨cl_9, Ar_9, q_9, S_9, N_9, H_9, G_9⟩ := id Va_7
  have hin_9 : ¬ ((3 : Int32) < 0 ∨ cl_9.slots.size ≤ ((3 : Int32)).toNatClampNeg) := inb_of S_9 ⟨by decide, by decide⟩
  obtain ⟨T9, h9, X9, e9, W9, st9⟩ := stB X7 hx hZ e7 Ar_9 (j := (3 : Int32)) hin_9 (g := (mkF m 49 #[.val (.int p1), .val (.int p2), .val (.int p3), .val (.int p4), .val (.ref b1), .unset, .unset, .unset, .unset, .unset, .unset, .unset, .unset] [(.int ((((p1.toUInt32 >>> ((24 : Int32) &&& 31).toUInt32).toInt32) &&& (127 : Int32)).toInt8.toInt32)), (.int (3 : Int32)), (.ref b1)])) rfl rfl (hb hby at_49)
  refine Gd.st st9 ?_
  have Va_9 : Arv Z h9 b1 k1 .byte (5 : Int32) [(.int (((p1 &&& (127 : Int32)).toInt8.toInt32)).toInt8.toInt32), (.int (((((p1.toUInt32 >>> ((8 : Int32) &&& 31).toUInt32).toInt32) &&& (127 : Int32)).toInt8.toInt32)).toInt8.toInt32), (.int (((((p1.toUInt32 >>> ((16 : Int32) &&& 31).toUInt32).toInt32) &&& (127 : Int32)).toInt8.toInt32)).toInt8.toInt32), (.int (((((p1.toUInt32 >>> ((24 : Int32) &&& 31).toUInt32).toInt32) &&& (127 : Int32)).toInt8.toInt32)).toInt8.toInt32), (.int (0 : Int32))] (.int (0 : Int32)) := Arv.set Ar_9 q_9 S_9 N_9 H_9 G_9 (fits_nar_byte _) W9 3 rfl (Nat.le_of_ble_eq_true rfl)
  have N9 := Fr.snoc X9 N7 g_b1
  have Z10 : n0 ≤ h9.size := Nat.le_trans Z8 (Keep.of_wr W9).1
  show Gd p.tables e below _ (T9.setTop (mkF m 50 #[.val (.int p1), .val (.int p2), .val (.int p3), .val (.int p4), .val (.ref b1), .unset, .unset, .unset, .unset, .unset, .unset, .unset, .unset] []))
  refine Gd.st (fun _ k => XS.aload X9.here hx rfl (hb hby at_50) rfl rfl k) ?_
  show Gd p.tables e below _ (T9.setTop (mkF m 52 #[.val (.int p1), .val (.int p2), .val (.int p3), .val (.int p4), .val (.ref b1), .unset, .unset, .unset, .unset, .unset, .unset, .unset, .unset] [(.ref b1)]))
  refine Gd.st (fun _ k => XS.iconst X9.here hx rfl (hb hby at_52) k) ?_
  show Gd p.tables e below _ (T9.setTop (mkF m 53 #[.val (.int p1), .val (.int p2), .val (.int p3), .val (.int p4), .val (.ref b1), .unset, .unset, .unset, .unset, .unset, .unset, .unset, .unset] [(.int (4 : Int32)), (.ref b1)]))
  refine Gd.st (fun _ k => XS.iloadN X9.here hx rfl (hb hby at_53) rfl k) ?_
  show Gd p.tables e below _ (T9.setTop (mkF m 54 #[.val (.int p1), .val (.int p2), .val (.int p3), .val (.int p4), .val (.ref b1), .unset, .unset, .unset, .unset, .unset, .unset, .unset, .unset] [(.int p2), (.int (4 : Int32)), (.ref b1)]))
  refine Gd.st (fun _ k => XS.bipush X9.here hx rfl (hb hby at_54) k) ?_
  show Gd p.tables e below _ (T9.setTop (mkF m 56 #[.val (.int p1), .val (.int p2), .val (.int p3), .val (.int p4), .val (.ref b1), .unset, .unset, .unset, .unset, .unset, .unset, .unset, .unset] [(.int (127 : Int32)), (.int p2), (.int (4 : Int32)), (.ref b1)]))
  refine Gd.st (fun _ k => XS.iand X9.here hx rfl (hb hby at_56) rfl k) ?_
  show Gd p.tables e below _ (T9.setTop (mkF m 57 #[.val (.int p1), .val (.int p2), .val (.int p3), .val (.int p4), .val (.ref b1), .unset, .unset, .unset, .unset, .unset, .unset, .unset, .unset] [(.int (p2 &&& (127 : Int32))), (.int (4 : Int32)), (.ref b1)]))
  refine Gd.st (fun _ k => XS.i2b X9.here hx rfl (hb hby at_57) rfl k) ?_
  show Gd p.tables e below _ (T9.setTop (mkF m 58 #[.val (.int p1), .val (.int p2), .val (.int p3), .val (.int p4), .val (.ref b1), .unset, .unset, .unset, .unset, .unset, .unset, .unset, .unset] [(.int ((p2 &&& (127 : Int32)).toInt8.toInt32)), (.int (4 : Int32)), (.ref b1)]))
  obtain ⟨cl_11, Ar_11, q_11, S_11, N_11, H_11, G_11⟩ := id Va_9
  have hin_11 : ¬ ((4 : Int32) < 0 ∨ cl_11.slots.size ≤ ((4 : Int32)).toNatClampNeg) := inb_of S_11 ⟨by decide, by decide⟩
  obtain ⟨T11, h11, X11, e11, W11, st11⟩ := stB X9 hx hZ e9 Ar_11 (j := (4 : Int32)) hin_11 (g := (mkF m 58 #[.val (.int p1), .val (.int p2), .val (.int p3), .val (.int p4), .val (.ref b1), .unset, .unset, .unset, .unset, .unset, .unset, .unset, .unset] [(.int ((p2 &&& (127 : Int32)).toInt8.toInt32)), (.int (4 : Int32)), (.ref b1)])) rfl rfl (hb hby at_58)
  refine Gd.st st11 ?_
  have Va_11 : Arv Z h11 b1 k1 .byte (5 : Int32) [(.int (((p1 &&& (127 : Int32)).toInt8.toInt32)).toInt8.toInt32), (.int (((((p1.toUInt32 >>> ((8 : Int32) &&& 31).toUInt32).toInt32) &&& (127 : Int32)).toInt8.toInt32)).toInt8.toInt32), (.int (((((p1.toUInt32 >>> ((16 : Int32) &&& 31).toUInt32).toInt32) &&& (127 : Int32)).toInt8.toInt32)).toInt8.toInt32), (.int (((((p1.toUInt32 >>> ((24 : Int32) &&& 31).toUInt32).toInt32) &&& (127 : Int32)).toInt8.toInt32)).toInt8.toInt32), (.int (((p2 &&& (127 : Int32)).toInt8.toInt32)).toInt8.toInt32)] (.int (0 : Int32)) := Arv.set Ar_11 q_11 S_11 N_11 H_11 G_11 (fits_nar_byte _) W11 4 rfl (Nat.le_of_ble_eq_true rfl)
  have N11 := Fr.snoc X11 N9 g_b1
  have Z12 : n0 ≤ h11.size := Nat.le_trans Z10 (Keep.of_wr W11).1
  show Gd p.tables e below _ (T11.setTop (mkF m 59 #[.val (.int p1), .val (.int p2), .val (.int p3), .val (.int p4), .val (.ref b1), .unset, .unset, .unset, .unset, .unset, .unset, .unset, .unset] []))
  obtain ⟨fx, Vx⟩ : ∃ f : Nat → Int32, Arv Z h11 b1 k1 .byte (5 : Int32) (own_vs f) (.int (0 : Int32)) := ⟨own_f5 ((((p1 &&& (127 : Int32)).toInt8.toInt32)).toInt8.toInt32) ((((((p1.toUInt32 >>> ((8 : Int32) &&& 31).toUInt32).toInt32) &&& (127 : Int32)).toInt8.toInt32)).toInt8.toInt32) ((((((p1.toUInt32 >>> ((16 : Int32) &&& 31).toUInt32).toInt32) &&& (127 : Int32)).toInt8.toInt32)).toInt8.toInt32) ((((((p1.toUInt32 >>> ((24 : Int32) &&& 31).toUInt32).toInt32) &&& (127 : Int32)).toInt8.toInt32)).toInt8.toInt32) ((((p2 &&& (127 : Int32)).toInt8.toInt32)).toInt8.toInt32), Va_11⟩
  refine Gd.st (fun _ k => XS.iloadN X11.here hx rfl (hb hby at_59) rfl k) ?_
  show Gd p.tables e below _ (T11.setTop (mkF m 60 #[.val (.int p1), .val (.int p2), .val (.int p3), .val (.int p4), .val (.ref b1), .unset, .unset, .unset, .unset, .unset, .unset, .unset, .unset] [(.int p3)]))
  refine Gd.st (fun _ k => XS.bipush X11.here hx rfl (hb hby at_60) k) ?_
  show Gd p.tables e below _ (T11.setTop (mkF m 62 #[.val (.int p1), .val (.int p2), .val (.int p3), .val (.int p4), .val (.ref b1), .unset, .unset, .unset, .unset, .unset, .unset, .unset, .unset] [(.int (7 : Int32)), (.int p3)]))
  refine Gd.st (fun _ k => XS.iand X11.here hx rfl (hb hby at_62) rfl k) ?_
  show Gd p.tables e below _ (T11.setTop (mkF m 63 #[.val (.int p1), .val (.int p2), .val (.int p3), .val (.int p4), .val (.ref b1), .unset, .unset, .unset, .unset, .unset, .unset, .unset, .unset] [(.int (p3 &&& (7 : Int32)))]))
  refine Gd.st (fun _ k => XS.bipush X11.here hx rfl (hb hby at_63) k) ?_
  show Gd p.tables e below _ (T11.setTop (mkF m 65 #[.val (.int p1), .val (.int p2), .val (.int p3), .val (.int p4), .val (.ref b1), .unset, .unset, .unset, .unset, .unset, .unset, .unset, .unset] [(.int (6 : Int32)), (.int (p3 &&& (7 : Int32)))]))
  refine Gd.st (fun _ k => XS.irem X11.here hx rfl (hb hby at_65) rfl (by decide) k) ?_
  show Gd p.tables e below _ (T11.setTop (mkF m 66 #[.val (.int p1), .val (.int p2), .val (.int p3), .val (.int p4), .val (.ref b1), .unset, .unset, .unset, .unset, .unset, .unset, .unset, .unset] [(.int (own_p p3))]))
  refine Gd.st (fun _ k => XS.istore X11.here hx rfl (hb hby at_66) rfl (l' := #[.val (.int p1), .val (.int p2), .val (.int p3), .val (.int p4), .val (.ref b1), .val (.int (own_p p3)), .unset, .unset, .unset, .unset, .unset, .unset, .unset]) rfl k) ?_
  show Gd p.tables e below _ (T11.setTop (mkF m 68 #[.val (.int p1), .val (.int p2), .val (.int p3), .val (.int p4), .val (.ref b1), .val (.int (own_p p3)), .unset, .unset, .unset, .unset, .unset, .unset, .unset] []))
  refine Gd.st (fun _ k => XS.iload X11.here hx rfl (hb hby at_68) rfl k) ?_
  show Gd p.tables e below _ (T11.setTop (mkF m 70 #[.val (.int p1), .val (.int p2), .val (.int p3), .val (.int p4), .val (.ref b1), .val (.int (own_p p3)), .unset, .unset, .unset, .unset, .unset, .unset, .unset] [(.int (own_p p3))]))
  refine Gd.st (fun _ k => XS.iloadN X11.here hx rfl (hb hby at_70) rfl k) ?_
  show Gd p.tables e below _ (T11.setTop (mkF m 71 #[.val (.int p1), .val (.int p2), .val (.int p3), .val (.int p4), .val (.ref b1), .val (.int (own_p p3)), .unset, .unset, .unset, .unset, .unset, .unset, .unset] [(.int p3), (.int (own_p p3))]))
  refine Gd.st (fun _ k => XS.iconst X11.here hx rfl (hb hby at_71) k) ?_
  show Gd p.tables e below _ (T11.setTop (mkF m 72 #[.val (.int p1), .val (.int p2), .val (.int p3), .val (.int p4), .val (.ref b1), .val (.int (own_p p3)), .unset, .unset, .unset, .unset, .unset, .unset, .unset] [(.int (3 : Int32)), (.int p3), (.int (own_p p3))]))
  refine Gd.st (fun _ k => XS.iushr X11.here hx rfl (hb hby at_72) rfl k) ?_
  show Gd p.tables e below _ (T11.setTop (mkF m 73 #[.val (.int p1), .val (.int p2), .val (.int p3), .val (.int p4), .val (.ref b1), .val (.int (own_p p3)), .unset, .unset, .unset, .unset, .unset, .unset, .unset] [(.int (own_sh p3 (3 : Int32))), (.int (own_p p3))]))
  refine Gd.st (fun _ k => XS.bipush X11.here hx rfl (hb hby at_73) k) ?_
  show Gd p.tables e below _ (T11.setTop (mkF m 75 #[.val (.int p1), .val (.int p2), .val (.int p3), .val (.int p4), .val (.ref b1), .val (.int (own_p p3)), .unset, .unset, .unset, .unset, .unset, .unset, .unset] [(.int (7 : Int32)), (.int (own_sh p3 (3 : Int32))), (.int (own_p p3))]))
  refine Gd.st (fun _ k => XS.iand X11.here hx rfl (hb hby at_75) rfl k) ?_
  show Gd p.tables e below _ (T11.setTop (mkF m 76 #[.val (.int p1), .val (.int p2), .val (.int p3), .val (.int p4), .val (.ref b1), .val (.int (own_p p3)), .unset, .unset, .unset, .unset, .unset, .unset, .unset] [(.int ((own_sh p3 (3 : Int32)) &&& (7 : Int32))), (.int (own_p p3))]))
  refine Gd.st (fun _ k => XS.bipush X11.here hx rfl (hb hby at_76) k) ?_
  show Gd p.tables e below _ (T11.setTop (mkF m 78 #[.val (.int p1), .val (.int p2), .val (.int p3), .val (.int p4), .val (.ref b1), .val (.int (own_p p3)), .unset, .unset, .unset, .unset, .unset, .unset, .unset] [(.int (6 : Int32)), (.int ((own_sh p3 (3 : Int32)) &&& (7 : Int32))), (.int (own_p p3))]))
  refine Gd.st (fun _ k => XS.iload X11.here hx rfl (hb hby at_78) rfl k) ?_
  show Gd p.tables e below _ (T11.setTop (mkF m 80 #[.val (.int p1), .val (.int p2), .val (.int p3), .val (.int p4), .val (.ref b1), .val (.int (own_p p3)), .unset, .unset, .unset, .unset, .unset, .unset, .unset] [(.int (own_p p3)), (.int (6 : Int32)), (.int ((own_sh p3 (3 : Int32)) &&& (7 : Int32))), (.int (own_p p3))]))
  refine Gd.st (fun _ k => XS.isub X11.here hx rfl (hb hby at_80) rfl k) ?_
  show Gd p.tables e below _ (T11.setTop (mkF m 81 #[.val (.int p1), .val (.int p2), .val (.int p3), .val (.int p4), .val (.ref b1), .val (.int (own_p p3)), .unset, .unset, .unset, .unset, .unset, .unset, .unset] [(.int ((6 : Int32) - (own_p p3))), (.int ((own_sh p3 (3 : Int32)) &&& (7 : Int32))), (.int (own_p p3))]))
  refine Gd.st (fun _ k => XS.irem X11.here hx rfl (hb hby at_81) rfl (own_nz p3) k) ?_
  show Gd p.tables e below _ (T11.setTop (mkF m 82 #[.val (.int p1), .val (.int p2), .val (.int p3), .val (.int p4), .val (.ref b1), .val (.int (own_p p3)), .unset, .unset, .unset, .unset, .unset, .unset, .unset] [(.int (own_rm (own_sh p3 (3 : Int32) &&& (7 : Int32)) ((6 : Int32) - (own_p p3)))), (.int (own_p p3))]))
  refine Gd.st (fun _ k => XS.iadd X11.here hx rfl (hb hby at_82) rfl k) ?_
  show Gd p.tables e below _ (T11.setTop (mkF m 83 #[.val (.int p1), .val (.int p2), .val (.int p3), .val (.int p4), .val (.ref b1), .val (.int (own_p p3)), .unset, .unset, .unset, .unset, .unset, .unset, .unset] [(.int (own_t p3))]))
  refine Gd.st (fun _ k => XS.istore X11.here hx rfl (hb hby at_83) rfl (l' := #[.val (.int p1), .val (.int p2), .val (.int p3), .val (.int p4), .val (.ref b1), .val (.int (own_p p3)), .val (.int (own_t p3)), .unset, .unset, .unset, .unset, .unset, .unset]) rfl k) ?_
  show Gd p.tables e below _ (T11.setTop (mkF m 85 #[.val (.int p1), .val (.int p2), .val (.int p3), .val (.int p4), .val (.ref b1), .val (.int (own_p p3)), .val (.int (own_t p3)), .unset, .unset, .unset, .unset, .unset, .unset] []))
  refine Gd.st (fun _ k => XS.iloadN X11.here hx rfl (hb hby at_85) rfl k) ?_
  show Gd p.tables e below _ (T11.setTop (mkF m 86 #[.val (.int p1), .val (.int p2), .val (.int p3), .val (.int p4), .val (.ref b1), .val (.int (own_p p3)), .val (.int (own_t p3)), .unset, .unset, .unset, .unset, .unset, .unset] [(.int p4)]))
  refine Gd.st (fun _ k => XS.bipush X11.here hx rfl (hb hby at_86) k) ?_
  show Gd p.tables e below _ (T11.setTop (mkF m 88 #[.val (.int p1), .val (.int p2), .val (.int p3), .val (.int p4), .val (.ref b1), .val (.int (own_p p3)), .val (.int (own_t p3)), .unset, .unset, .unset, .unset, .unset, .unset] [(.int (7 : Int32)), (.int p4)]))
  refine Gd.st (fun _ k => XS.iand X11.here hx rfl (hb hby at_88) rfl k) ?_
  show Gd p.tables e below _ (T11.setTop (mkF m 89 #[.val (.int p1), .val (.int p2), .val (.int p3), .val (.int p4), .val (.ref b1), .val (.int (own_p p3)), .val (.int (own_t p3)), .unset, .unset, .unset, .unset, .unset, .unset] [(.int (p4 &&& (7 : Int32)))]))
  refine Gd.st (fun _ k => XS.bipush X11.here hx rfl (hb hby at_89) k) ?_
  show Gd p.tables e below _ (T11.setTop (mkF m 91 #[.val (.int p1), .val (.int p2), .val (.int p3), .val (.int p4), .val (.ref b1), .val (.int (own_p p3)), .val (.int (own_t p3)), .unset, .unset, .unset, .unset, .unset, .unset] [(.int (6 : Int32)), (.int (p4 &&& (7 : Int32)))]))
  refine Gd.st (fun _ k => XS.irem X11.here hx rfl (hb hby at_91) rfl (by decide) k) ?_
  show Gd p.tables e below _ (T11.setTop (mkF m 92 #[.val (.int p1), .val (.int p2), .val (.int p3), .val (.int p4), .val (.ref b1), .val (.int (own_p p3)), .val (.int (own_t p3)), .unset, .unset, .unset, .unset, .unset, .unset] [(.int (own_p p4))]))
  refine Gd.st (fun _ k => XS.istore X11.here hx rfl (hb hby at_92) rfl (l' := #[.val (.int p1), .val (.int p2), .val (.int p3), .val (.int p4), .val (.ref b1), .val (.int (own_p p3)), .val (.int (own_t p3)), .val (.int (own_p p4)), .unset, .unset, .unset, .unset, .unset]) rfl k) ?_
  show Gd p.tables e below _ (T11.setTop (mkF m 94 #[.val (.int p1), .val (.int p2), .val (.int p3), .val (.int p4), .val (.ref b1), .val (.int (own_p p3)), .val (.int (own_t p3)), .val (.int (own_p p4)), .unset, .unset, .unset, .unset, .unset] []))
  refine Gd.st (fun _ k => XS.iload X11.here hx rfl (hb hby at_94) rfl k) ?_
  show Gd p.tables e below _ (T11.setTop (mkF m 96 #[.val (.int p1), .val (.int p2), .val (.int p3), .val (.int p4), .val (.ref b1), .val (.int (own_p p3)), .val (.int (own_t p3)), .val (.int (own_p p4)), .unset, .unset, .unset, .unset, .unset] [(.int (own_p p4))]))
  refine Gd.st (fun _ k => XS.iloadN X11.here hx rfl (hb hby at_96) rfl k) ?_
  show Gd p.tables e below _ (T11.setTop (mkF m 97 #[.val (.int p1), .val (.int p2), .val (.int p3), .val (.int p4), .val (.ref b1), .val (.int (own_p p3)), .val (.int (own_t p3)), .val (.int (own_p p4)), .unset, .unset, .unset, .unset, .unset] [(.int p4), (.int (own_p p4))]))
  refine Gd.st (fun _ k => XS.iconst X11.here hx rfl (hb hby at_97) k) ?_
  show Gd p.tables e below _ (T11.setTop (mkF m 98 #[.val (.int p1), .val (.int p2), .val (.int p3), .val (.int p4), .val (.ref b1), .val (.int (own_p p3)), .val (.int (own_t p3)), .val (.int (own_p p4)), .unset, .unset, .unset, .unset, .unset] [(.int (3 : Int32)), (.int p4), (.int (own_p p4))]))
  refine Gd.st (fun _ k => XS.iushr X11.here hx rfl (hb hby at_98) rfl k) ?_
  show Gd p.tables e below _ (T11.setTop (mkF m 99 #[.val (.int p1), .val (.int p2), .val (.int p3), .val (.int p4), .val (.ref b1), .val (.int (own_p p3)), .val (.int (own_t p3)), .val (.int (own_p p4)), .unset, .unset, .unset, .unset, .unset] [(.int (own_sh p4 (3 : Int32))), (.int (own_p p4))]))
  refine Gd.st (fun _ k => XS.bipush X11.here hx rfl (hb hby at_99) k) ?_
  show Gd p.tables e below _ (T11.setTop (mkF m 101 #[.val (.int p1), .val (.int p2), .val (.int p3), .val (.int p4), .val (.ref b1), .val (.int (own_p p3)), .val (.int (own_t p3)), .val (.int (own_p p4)), .unset, .unset, .unset, .unset, .unset] [(.int (7 : Int32)), (.int (own_sh p4 (3 : Int32))), (.int (own_p p4))]))
  refine Gd.st (fun _ k => XS.iand X11.here hx rfl (hb hby at_101) rfl k) ?_
  show Gd p.tables e below _ (T11.setTop (mkF m 102 #[.val (.int p1), .val (.int p2), .val (.int p3), .val (.int p4), .val (.ref b1), .val (.int (own_p p3)), .val (.int (own_t p3)), .val (.int (own_p p4)), .unset, .unset, .unset, .unset, .unset] [(.int ((own_sh p4 (3 : Int32)) &&& (7 : Int32))), (.int (own_p p4))]))
  refine Gd.st (fun _ k => XS.bipush X11.here hx rfl (hb hby at_102) k) ?_
  show Gd p.tables e below _ (T11.setTop (mkF m 104 #[.val (.int p1), .val (.int p2), .val (.int p3), .val (.int p4), .val (.ref b1), .val (.int (own_p p3)), .val (.int (own_t p3)), .val (.int (own_p p4)), .unset, .unset, .unset, .unset, .unset] [(.int (6 : Int32)), (.int ((own_sh p4 (3 : Int32)) &&& (7 : Int32))), (.int (own_p p4))]))
  refine Gd.st (fun _ k => XS.iload X11.here hx rfl (hb hby at_104) rfl k) ?_
  show Gd p.tables e below _ (T11.setTop (mkF m 106 #[.val (.int p1), .val (.int p2), .val (.int p3), .val (.int p4), .val (.ref b1), .val (.int (own_p p3)), .val (.int (own_t p3)), .val (.int (own_p p4)), .unset, .unset, .unset, .unset, .unset] [(.int (own_p p4)), (.int (6 : Int32)), (.int ((own_sh p4 (3 : Int32)) &&& (7 : Int32))), (.int (own_p p4))]))
  refine Gd.st (fun _ k => XS.isub X11.here hx rfl (hb hby at_106) rfl k) ?_
  show Gd p.tables e below _ (T11.setTop (mkF m 107 #[.val (.int p1), .val (.int p2), .val (.int p3), .val (.int p4), .val (.ref b1), .val (.int (own_p p3)), .val (.int (own_t p3)), .val (.int (own_p p4)), .unset, .unset, .unset, .unset, .unset] [(.int ((6 : Int32) - (own_p p4))), (.int ((own_sh p4 (3 : Int32)) &&& (7 : Int32))), (.int (own_p p4))]))
  refine Gd.st (fun _ k => XS.irem X11.here hx rfl (hb hby at_107) rfl (own_nz p4) k) ?_
  show Gd p.tables e below _ (T11.setTop (mkF m 108 #[.val (.int p1), .val (.int p2), .val (.int p3), .val (.int p4), .val (.ref b1), .val (.int (own_p p3)), .val (.int (own_t p3)), .val (.int (own_p p4)), .unset, .unset, .unset, .unset, .unset] [(.int (own_rm (own_sh p4 (3 : Int32) &&& (7 : Int32)) ((6 : Int32) - (own_p p4)))), (.int (own_p p4))]))
  refine Gd.st (fun _ k => XS.iadd X11.here hx rfl (hb hby at_108) rfl k) ?_
  show Gd p.tables e below _ (T11.setTop (mkF m 109 #[.val (.int p1), .val (.int p2), .val (.int p3), .val (.int p4), .val (.ref b1), .val (.int (own_p p3)), .val (.int (own_t p3)), .val (.int (own_p p4)), .unset, .unset, .unset, .unset, .unset] [(.int (own_t p4))]))
  refine Gd.st (fun _ k => XS.istore X11.here hx rfl (hb hby at_109) rfl (l' := #[.val (.int p1), .val (.int p2), .val (.int p3), .val (.int p4), .val (.ref b1), .val (.int (own_p p3)), .val (.int (own_t p3)), .val (.int (own_p p4)), .val (.int (own_t p4)), .unset, .unset, .unset, .unset]) rfl k) ?_
  show Gd p.tables e below _ (T11.setTop (mkF m 111 #[.val (.int p1), .val (.int p2), .val (.int p3), .val (.int p4), .val (.ref b1), .val (.int (own_p p3)), .val (.int (own_t p3)), .val (.int (own_p p4)), .val (.int (own_t p4)), .unset, .unset, .unset, .unset] []))
  obtain ⟨T13, h13, X13, e13, E13, A13, D13, -, st13⟩ := newO X11 hx hZ hown (hw _ (List.mem_of_getElem? (i := 1) rfl)) (hw _ (List.mem_of_getElem? (i := 2) rfl)) (hw _ (List.mem_of_getElem? (i := 3) rfl)) e11 (g := (mkF m 111 #[.val (.int p1), .val (.int p2), .val (.int p3), .val (.int p4), .val (.ref b1), .val (.int (own_p p3)), .val (.int (own_t p3)), .val (.int (own_p p4)), .val (.int (own_t p4)), .unset, .unset, .unset, .unset] [])) rfl (hb hby at_111) (by decide) (by decide)
  obtain ⟨b13, g13⟩ : ∃ z, z = h11.size := ⟨_, rfl⟩
  rw [← g13] at A13 D13 st13
  refine Gd.st st13 ?_
  have ne_b1_b13 : b1 ≠ b13 := Nat.ne_of_lt (Nat.lt_of_lt_of_le Vx.lt (Nat.le_of_eq g13.symm))
  have g_b13 : n0 ≤ b13 := Nat.le_trans Z12 (Nat.le_of_eq g13.symm)
  have Z14 : n0 ≤ h13.size := Nat.le_trans Z12 E13.1
  have F_bytes_b13 : Fld Z h13 b13 "com/example/hereafter/hereafter/io/AsciiText" "bytes" "[B" .null := D13 (Or.inl (hw _ (List.mem_of_getElem? (i := 16) rfl))) (ty := (.array .byte)) (by decide)
  have F_from_b13 : Fld Z h13 b13 "com/example/hereafter/hereafter/io/AsciiText" "from" "I" (.int (0 : Int32)) := D13 (Or.inl (hw _ (List.mem_of_getElem? (i := 18) rfl))) (ty := .int) (by decide)
  have F_to_b13 : Fld Z h13 b13 "com/example/hereafter/hereafter/io/AsciiText" "to" "I" (.int (0 : Int32)) := D13 (Or.inl (hw _ (List.mem_of_getElem? (i := 20) rfl))) (ty := .int) (by decide)
  have F_hashed_b13 : Fld Z h13 b13 "com/example/hereafter/hereafter/io/AsciiText" "hashed" "Z" (.int (0 : Int32)) := D13 (Or.inl (hw _ (List.mem_of_getElem? (i := 22) rfl))) (ty := .boolean) (by decide)
  have F_hash_b13 : Fld Z h13 b13 "com/example/hereafter/hereafter/io/AsciiText" "hash" "I" (.int (0 : Int32)) := D13 (Or.inl (hw _ (List.mem_of_getElem? (i := 29) rfl))) (ty := .int) (by decide)
  show Gd p.tables e below _ (T13.setTop (mkF m 114 #[.val (.int p1), .val (.int p2), .val (.int p3), .val (.int p4), .val (.ref b1), .val (.int (own_p p3)), .val (.int (own_t p3)), .val (.int (own_p p4)), .val (.int (own_t p4)), .unset, .unset, .unset, .unset] [(.ref b13)]))
  refine Gd.st (fun _ k => XS.dup X13.here hx rfl (hb hby at_114) rfl rfl k) ?_
  show Gd p.tables e below _ (T13.setTop (mkF m 115 #[.val (.int p1), .val (.int p2), .val (.int p3), .val (.int p4), .val (.ref b1), .val (.int (own_p p3)), .val (.int (own_t p3)), .val (.int (own_p p4)), .val (.int (own_t p4)), .unset, .unset, .unset, .unset] [(.ref b13), (.ref b13)]))
  refine Gd.st (fun _ k => XS.aload X13.here hx rfl (hb hby at_115) rfl rfl k) ?_
  show Gd p.tables e below _ (T13.setTop (mkF m 117 #[.val (.int p1), .val (.int p2), .val (.int p3), .val (.int p4), .val (.ref b1), .val (.int (own_p p3)), .val (.int (own_t p3)), .val (.int (own_p p4)), .val (.int (own_t p4)), .unset, .unset, .unset, .unset] [(.ref b1), (.ref b13), (.ref b13)]))
  refine Gd.st (fun _ k => XS.iload X13.here hx rfl (hb hby at_117) rfl k) ?_
  show Gd p.tables e below _ (T13.setTop (mkF m 119 #[.val (.int p1), .val (.int p2), .val (.int p3), .val (.int p4), .val (.ref b1), .val (.int (own_p p3)), .val (.int (own_t p3)), .val (.int (own_p p4)), .val (.int (own_t p4)), .unset, .unset, .unset, .unset] [(.int (own_p p3)), (.ref b1), (.ref b13), (.ref b13)]))
  refine Gd.st (fun _ k => XS.iload X13.here hx rfl (hb hby at_119) rfl k) ?_
  show Gd p.tables e below _ (T13.setTop (mkF m 121 #[.val (.int p1), .val (.int p2), .val (.int p3), .val (.int p4), .val (.ref b1), .val (.int (own_p p3)), .val (.int (own_t p3)), .val (.int (own_p p4)), .val (.int (own_t p4)), .unset, .unset, .unset, .unset] [(.int (own_t p3)), (.int (own_p p3)), (.ref b1), (.ref b13), (.ref b13)]))
  obtain ⟨_, _, ⟨T15, L15, k15, n15⟩, -, X15, ⟨Lc15, hQ15, l15, y15, z15⟩, st15⟩ := X13.specialBack hx (y := (⟨"com/example/hereafter/hereafter/io/AsciiText", "<init>", "([BII)V"⟩ : MethodName)) rfl hown (mvT hZ (hw _ (List.mem_of_getElem? (i := 4) rfl))) (mvT hZ (hw _ (List.mem_of_getElem? (i := 5) rfl))) (mvT hZ (hw _ (List.mem_of_getElem? (i := 6) rfl))) (by decide) (backOf (W := 1) (rm1 l Z a0 hw [] b13 b1 (own_p p3) (own_t p3) .null (.int (0 : Int32)) (.int (0 : Int32)) (.int (0 : Int32)) (.int (0 : Int32)) h13 n0 Z14 A13 F_bytes_b13 F_from_b13 F_to_b13 F_hashed_b13 F_hash_b13 g_b13) hZ (hw _ (List.mem_of_getElem? (i := 6) rfl)) (hw _ (List.mem_of_getElem? (i := 3) rfl)) (by decide) (by decide)) (g := (mkF m 121 #[.val (.int p1), .val (.int p2), .val (.int p3), .val (.int p4), .val (.ref b1), .val (.int (own_p p3)), .val (.int (own_t p3)), .val (.int (own_p p4)), .val (.int (own_t p4)), .unset, .unset, .unset, .unset] [(.int (own_t p3)), (.int (own_p p3)), (.ref b1), (.ref b13), (.ref b13)])) rfl (by rw [hml]; rfl) (Steps.refl _) (a := b13) (argsL := [(.ref b1), (.int (own_p p3)), (.int (own_t p3))]) (rest := [(.ref b13)]) (lenOf pd__ABII_V_7 rfl) rfl (by show 2 * 0 + _ ≤ _; exact Nat.le_of_eq rfl) (hb hby at_121) (fun _ _ => ⟨rfl, e13, (by decide : 2 + 0 ≤ _), (by decide : 10 + 0 ≤ _)⟩)
  dsimp only [Pt.U, Pt.locs, Pt.cells, Pt.slots] at X15 l15 y15 z15 st15 hQ15
  simp only [Nat.add_zero, Nat.zero_add, Nat.reduceAdd] at y15 z15
  subst y15 z15
  obtain ⟨rfl, N15q, K15, A15, F15_0, F15_1, F15_2, F15_3, F15_4⟩ := hQ15
  have N15 : Fr n0 L15 := by rw [l15]; exact Fr.app N11 N15q
  clear l15
  refine Gd.st (fun _ k => st15.trans k) ?_
  have Z16 : n0 ≤ T15.heap.size := Nat.le_trans Z14 K15.1
  show Gd p.tables e below _ (T15.setTop (mkF m 124 #[.val (.int p1), .val (.int p2), .val (.int p3), .val (.int p4), .val (.ref b1), .val (.int (own_p p3)), .val (.int (own_t p3)), .val (.int (own_p p4)), .val (.int (own_t p4)), .unset, .unset, .unset, .unset] [(.ref b13)]))
  refine Gd.st (fun _ k => XS.astore X15.here hx rfl (hb hby at_124) rfl rfl (l' := #[.val (.int p1), .val (.int p2), .val (.int p3), .val (.int p4), .val (.ref b1), .val (.int (own_p p3)), .val (.int (own_t p3)), .val (.int (own_p p4)), .val (.int (own_t p4)), .val (.ref b13), .unset, .unset, .unset]) rfl k) ?_
  show Gd p.tables e below _ (T15.setTop (mkF m 126 #[.val (.int p1), .val (.int p2), .val (.int p3), .val (.int p4), .val (.ref b1), .val (.int (own_p p3)), .val (.int (own_t p3)), .val (.int (own_p p4)), .val (.int (own_t p4)), .val (.ref b13), .unset, .unset, .unset] []))
  refine Gd.st (fun _ k => XS.aload X15.here hx rfl (hb hby at_126) rfl rfl k) ?_
  show Gd p.tables e below _ (T15.setTop (mkF m 128 #[.val (.int p1), .val (.int p2), .val (.int p3), .val (.int p4), .val (.ref b1), .val (.int (own_p p3)), .val (.int (own_t p3)), .val (.int (own_p p4)), .val (.int (own_t p4)), .val (.ref b13), .unset, .unset, .unset] [(.ref b13)]))
  have q18 := ((Vx.ext E13).keep K15 (ninS ne_b1_b13 nin0))
  obtain ⟨cq17, kq17, q17a, q17b, q17c⟩ := isOf hZ rfl A15
  obtain ⟨_, _, ⟨T17, L17, k17, n17⟩, -, X17, ⟨Lc17, hQ17, l17, y17, z17⟩, st17⟩ := X15.virtualBack hx (y := (⟨"com/example/hereafter/hereafter/io/AsciiText", "hashCode", "()I"⟩ : MethodName)) (z := (⟨"com/example/hereafter/hereafter/io/AsciiText", "hashCode", "()I"⟩ : MethodName)) hown (mvT hZ (hw _ (List.mem_of_getElem? (i := 23) rfl))) (mvT hZ (hw _ (List.mem_of_getElem? (i := 24) rfl))) (notFace_of_selects (args := #[]) (mvT hZ (hw _ (List.mem_of_getElem? (i := 26) rfl)))) (mvT hZ (hw _ (List.mem_of_getElem? (i := 26) rfl))) (mvT hZ (hw _ (List.mem_of_getElem? (i := 25) rfl))) (by decide) (backOf (W := 0) (rmH l Z a0 hw [] b13 b1 (own_p p3) (own_t p3) (.int (0 : Int32)) k1 fx (((own_t p3).toInt - (own_p p3).toInt).toNat) T15.heap n0 Z16 A15 F15_0 F15_1 F15_2 F15_3 F15_4 q18 ne_b1_b13 g_b13 (own_hb p3)) hZ (hw _ (List.mem_of_getElem? (i := 27) rfl)) (hw _ (List.mem_of_getElem? (i := 3) rfl)) (by decide) (by decide)) q17a q17c (g := (mkF m 128 #[.val (.int p1), .val (.int p2), .val (.int p3), .val (.int p4), .val (.ref b1), .val (.int (own_p p3)), .val (.int (own_t p3)), .val (.int (own_p p4)), .val (.int (own_t p4)), .val (.ref b13), .unset, .unset, .unset] [(.ref b13)])) rfl (by rw [hml]; rfl) (Steps.refl _) (argsL := []) (rest := []) (lenOf pd___I_3 rfl) rfl (by show 2 * 0 + _ ≤ _; exact Nat.le_of_eq rfl) (hb hby at_128) (fun _ _ => ⟨rfl, rfl, (by decide : 2 + 0 ≤ _), (by decide : 10 + 0 ≤ _)⟩)
  dsimp only [Pt.U, Pt.locs, Pt.cells, Pt.slots] at X17 l17 y17 z17 st17 hQ17
  simp only [Nat.add_zero, Nat.zero_add, Nat.reduceAdd] at y17 z17
  subst y17 z17
  obtain ⟨rfl, N17q, K17, A17, F17_0, F17_1, F17_2, F17_3, F17_4⟩ := hQ17
  have N17 : Fr n0 L17 := by rw [l17]; exact Fr.app N15 N17q
  clear l17
  refine Gd.st (fun _ k => st17.trans k) ?_
  have Z19 : n0 ≤ T17.heap.size := Nat.le_trans Z16 K17.1
  show Gd p.tables e below _ (T17.setTop (mkF m 131 #[.val (.int p1), .val (.int p2), .val (.int p3), .val (.int p4), .val (.ref b1), .val (.int (own_p p3)), .val (.int (own_t p3)), .val (.int (own_p p4)), .val (.int (own_t p4)), .val (.ref b13), .unset, .unset, .unset] [(.int (own_rh fx (own_p p3).toNatClampNeg (((own_t p3).toInt - (own_p p3).toInt).toNat) (0 : Int32)))]))
  refine Gd.st (fun _ k => XS.istore X17.here hx rfl (hb hby at_131) rfl (l' := #[.val (.int p1), .val (.int p2), .val (.int p3), .val (.int p4), .val (.ref b1), .val (.int (own_p p3)), .val (.int (own_t p3)), .val (.int (own_p p4)), .val (.int (own_t p4)), .val (.ref b13), .val (.int (own_rh fx (own_p p3).toNatClampNeg (((own_t p3).toInt - (own_p p3).toInt).toNat) (0 : Int32))), .unset, .unset]) rfl k) ?_
  show Gd p.tables e below _ (T17.setTop (mkF m 133 #[.val (.int p1), .val (.int p2), .val (.int p3), .val (.int p4), .val (.ref b1), .val (.int (own_p p3)), .val (.int (own_t p3)), .val (.int (own_p p4)), .val (.int (own_t p4)), .val (.ref b13), .val (.int (own_rh fx (own_p p3).toNatClampNeg (((own_t p3).toInt - (own_p p3).toInt).toNat) (0 : Int32))), .unset, .unset] []))
  refine Gd.st (fun _ k => XS.aload X17.here hx rfl (hb hby at_133) rfl rfl k) ?_
  show Gd p.tables e below _ (T17.setTop (mkF m 135 #[.val (.int p1), .val (.int p2), .val (.int p3), .val (.int p4), .val (.ref b1), .val (.int (own_p p3)), .val (.int (own_t p3)), .val (.int (own_p p4)), .val (.int (own_t p4)), .val (.ref b13), .val (.int (own_rh fx (own_p p3).toNatClampNeg (((own_t p3).toInt - (own_p p3).toInt).toNat) (0 : Int32))), .unset, .unset] [(.ref b13)]))
  obtain ⟨cq20, kq20, q20a, q20b, q20c⟩ := isOf hZ rfl A17
  obtain ⟨_, _, ⟨T20, L20, k20, n20⟩, -, X20, ⟨Lc20, hQ20, l20, y20, z20⟩, st20⟩ := X17.virtualBack hx (y := (⟨"com/example/hereafter/hereafter/io/AsciiText", "hashCode", "()I"⟩ : MethodName)) (z := (⟨"com/example/hereafter/hereafter/io/AsciiText", "hashCode", "()I"⟩ : MethodName)) hown (mvT hZ (hw _ (List.mem_of_getElem? (i := 23) rfl))) (mvT hZ (hw _ (List.mem_of_getElem? (i := 24) rfl))) (notFace_of_selects (args := #[]) (mvT hZ (hw _ (List.mem_of_getElem? (i := 26) rfl)))) (mvT hZ (hw _ (List.mem_of_getElem? (i := 26) rfl))) (mvT hZ (hw _ (List.mem_of_getElem? (i := 25) rfl))) (by decide) (backOf (W := 0) (rmW l Z a0 hw [] b13 (own_rh fx (own_p p3).toNatClampNeg (((own_t p3).toInt - (own_p p3).toInt).toNat) (0 : Int32)) T17.heap n0 Z19 F17_3 F17_4) hZ (hw _ (List.mem_of_getElem? (i := 27) rfl)) (hw _ (List.mem_of_getElem? (i := 3) rfl)) (by decide) (by decide)) q20a q20c (g := (mkF m 135 #[.val (.int p1), .val (.int p2), .val (.int p3), .val (.int p4), .val (.ref b1), .val (.int (own_p p3)), .val (.int (own_t p3)), .val (.int (own_p p4)), .val (.int (own_t p4)), .val (.ref b13), .val (.int (own_rh fx (own_p p3).toNatClampNeg (((own_t p3).toInt - (own_p p3).toInt).toNat) (0 : Int32))), .unset, .unset] [(.ref b13)])) rfl (by rw [hml]; rfl) (Steps.refl _) (argsL := []) (rest := []) (lenOf pd___I_3 rfl) rfl (by show 2 * 0 + _ ≤ _; exact Nat.le_of_eq rfl) (hb hby at_135) (fun _ _ => ⟨rfl, rfl, (by decide : 2 + 0 ≤ _), (by decide : 10 + 0 ≤ _)⟩)
  dsimp only [Pt.U, Pt.locs, Pt.cells, Pt.slots] at X20 l20 y20 z20 st20 hQ20
  simp only [Nat.add_zero, Nat.zero_add, Nat.reduceAdd] at y20 z20
  subst y20 z20
  obtain ⟨rfl, N20q, eh20⟩ := hQ20
  have N20 : Fr n0 L20 := by rw [l20]; exact Fr.app N17 N20q
  clear l20
  refine Gd.st (fun _ k => st20.trans k) ?_
  have e20 : T20.heap = T17.heap := eh20
  show Gd p.tables e below _ (T20.setTop (mkF m 138 #[.val (.int p1), .val (.int p2), .val (.int p3), .val (.int p4), .val (.ref b1), .val (.int (own_p p3)), .val (.int (own_t p3)), .val (.int (own_p p4)), .val (.int (own_t p4)), .val (.ref b13), .val (.int (own_rh fx (own_p p3).toNatClampNeg (((own_t p3).toInt - (own_p p3).toInt).toNat) (0 : Int32))), .unset, .unset] [(.int (own_rh fx (own_p p3).toNatClampNeg (((own_t p3).toInt - (own_p p3).toInt).toNat) (0 : Int32)))]))
  refine Gd.st (fun _ k => XS.istore X20.here hx rfl (hb hby at_138) rfl (l' := #[.val (.int p1), .val (.int p2), .val (.int p3), .val (.int p4), .val (.ref b1), .val (.int (own_p p3)), .val (.int (own_t p3)), .val (.int (own_p p4)), .val (.int (own_t p4)), .val (.ref b13), .val (.int (own_rh fx (own_p p3).toNatClampNeg (((own_t p3).toInt - (own_p p3).toInt).toNat) (0 : Int32))), .val (.int (own_rh fx (own_p p3).toNatClampNeg (((own_t p3).toInt - (own_p p3).toInt).toNat) (0 : Int32))), .unset]) rfl k) ?_
  show Gd p.tables e below _ (T20.setTop (mkF m 140 #[.val (.int p1), .val (.int p2), .val (.int p3), .val (.int p4), .val (.ref b1), .val (.int (own_p p3)), .val (.int (own_t p3)), .val (.int (own_p p4)), .val (.int (own_t p4)), .val (.ref b13), .val (.int (own_rh fx (own_p p3).toNatClampNeg (((own_t p3).toInt - (own_p p3).toInt).toNat) (0 : Int32))), .val (.int (own_rh fx (own_p p3).toNatClampNeg (((own_t p3).toInt - (own_p p3).toInt).toNat) (0 : Int32))), .unset] []))
  refine Gd.st (fun _ k => XS.aload X20.here hx rfl (hb hby at_140) rfl rfl k) ?_
  show Gd p.tables e below _ (T20.setTop (mkF m 142 #[.val (.int p1), .val (.int p2), .val (.int p3), .val (.int p4), .val (.ref b1), .val (.int (own_p p3)), .val (.int (own_t p3)), .val (.int (own_p p4)), .val (.int (own_t p4)), .val (.ref b13), .val (.int (own_rh fx (own_p p3).toNatClampNeg (((own_t p3).toInt - (own_p p3).toInt).toNat) (0 : Int32))), .val (.int (own_rh fx (own_p p3).toNatClampNeg (((own_t p3).toInt - (own_p p3).toInt).toNat) (0 : Int32))), .unset] [(.ref b13)]))
  refine Gd.st (fun _ k => XS.aload X20.here hx rfl (hb hby at_142) rfl rfl k) ?_
  show Gd p.tables e below _ (T20.setTop (mkF m 144 #[.val (.int p1), .val (.int p2), .val (.int p3), .val (.int p4), .val (.ref b1), .val (.int (own_p p3)), .val (.int (own_t p3)), .val (.int (own_p p4)), .val (.int (own_t p4)), .val (.ref b13), .val (.int (own_rh fx (own_p p3).toNatClampNeg (((own_t p3).toInt - (own_p p3).toInt).toNat) (0 : Int32))), .val (.int (own_rh fx (own_p p3).toNatClampNeg (((own_t p3).toInt - (own_p p3).toInt).toNat) (0 : Int32))), .unset] [(.ref b1), (.ref b13)]))
  refine Gd.st (fun _ k => XS.iload X20.here hx rfl (hb hby at_144) rfl k) ?_
  show Gd p.tables e below _ (T20.setTop (mkF m 146 #[.val (.int p1), .val (.int p2), .val (.int p3), .val (.int p4), .val (.ref b1), .val (.int (own_p p3)), .val (.int (own_t p3)), .val (.int (own_p p4)), .val (.int (own_t p4)), .val (.ref b13), .val (.int (own_rh fx (own_p p3).toNatClampNeg (((own_t p3).toInt - (own_p p3).toInt).toNat) (0 : Int32))), .val (.int (own_rh fx (own_p p3).toNatClampNeg (((own_t p3).toInt - (own_p p3).toInt).toNat) (0 : Int32))), .unset] [(.int (own_p p4)), (.ref b1), (.ref b13)]))
  refine Gd.st (fun _ k => XS.iload X20.here hx rfl (hb hby at_146) rfl k) ?_
  show Gd p.tables e below _ (T20.setTop (mkF m 148 #[.val (.int p1), .val (.int p2), .val (.int p3), .val (.int p4), .val (.ref b1), .val (.int (own_p p3)), .val (.int (own_t p3)), .val (.int (own_p p4)), .val (.int (own_t p4)), .val (.ref b13), .val (.int (own_rh fx (own_p p3).toNatClampNeg (((own_t p3).toInt - (own_p p3).toInt).toNat) (0 : Int32))), .val (.int (own_rh fx (own_p p3).toNatClampNeg (((own_t p3).toInt - (own_p p3).toInt).toNat) (0 : Int32))), .unset] [(.int (own_t p4)), (.int (own_p p4)), (.ref b1), (.ref b13)]))
  obtain ⟨cq21, kq21, q21a, q21b, q21c⟩ := isOf hZ e20 A17
  obtain ⟨_, _, ⟨T21, L21, k21, n21⟩, -, X21, ⟨Lc21, hQ21, l21, y21, z21⟩, st21⟩ := X20.virtualBack hx (y := (⟨"com/example/hereafter/hereafter/io/AsciiText", "set", "([BII)V"⟩ : MethodName)) (z := (⟨"com/example/hereafter/hereafter/io/AsciiText", "set", "([BII)V"⟩ : MethodName)) hown (mvT hZ (hw _ (List.mem_of_getElem? (i := 30) rfl))) (mvT hZ (hw _ (List.mem_of_getElem? (i := 11) rfl))) (notFace_of_selects (args := #[]) (mvT hZ (hw _ (List.mem_of_getElem? (i := 13) rfl)))) (mvT hZ (hw _ (List.mem_of_getElem? (i := 13) rfl))) (mvT hZ (hw _ (List.mem_of_getElem? (i := 12) rfl))) (by decide) (backOf (W := 0) (rm3 l Z a0 hw [] b13 b1 (own_p p4) (own_t p4) (.ref b1) (.int (own_p p3)) (.int (own_t p3)) (.int (1 : Int32)) (.int (own_rh fx (own_p p3).toNatClampNeg (((own_t p3).toInt - (own_p p3).toInt).toNat) (0 : Int32))) T17.heap n0 Z19 A17 F17_0 F17_1 F17_2 F17_3 F17_4 g_b13) hZ (hw _ (List.mem_of_getElem? (i := 14) rfl)) (hw _ (List.mem_of_getElem? (i := 3) rfl)) (by decide) (by decide)) q21a q21c (g := (mkF m 148 #[.val (.int p1), .val (.int p2), .val (.int p3), .val (.int p4), .val (.ref b1), .val (.int (own_p p3)), .val (.int (own_t p3)), .val (.int (own_p p4)), .val (.int (own_t p4)), .val (.ref b13), .val (.int (own_rh fx (own_p p3).toNatClampNeg (((own_t p3).toInt - (own_p p3).toInt).toNat) (0 : Int32))), .val (.int (own_rh fx (own_p p3).toNatClampNeg (((own_t p3).toInt - (own_p p3).toInt).toNat) (0 : Int32))), .unset] [(.int (own_t p4)), (.int (own_p p4)), (.ref b1), (.ref b13)])) rfl (by rw [hml]; rfl) (Steps.refl _) (argsL := [(.ref b1), (.int (own_p p4)), (.int (own_t p4))]) (rest := []) (lenOf pd__ABII_V_7 rfl) rfl (by show 2 * 0 + _ ≤ _; exact Nat.le_of_eq rfl) (hb hby at_148) (fun _ _ => ⟨rfl, e20, (by decide : 2 + 0 ≤ _), (by decide : 10 + 0 ≤ _)⟩)
  dsimp only [Pt.U, Pt.locs, Pt.cells, Pt.slots] at X21 l21 y21 z21 st21 hQ21
  simp only [Nat.add_zero, Nat.zero_add, Nat.reduceAdd] at y21 z21
  subst y21 z21
  obtain ⟨rfl, N21q, K21, A21, F21_0, F21_1, F21_2, F21_3, F21_4⟩ := hQ21
  have N21 : Fr n0 L21 := by rw [l21]; exact Fr.app N20 N21q
  clear l21
  refine Gd.st (fun _ k => st21.trans k) ?_
  have Z22 : n0 ≤ T21.heap.size := Nat.le_trans Z19 K21.1
  show Gd p.tables e below _ (T21.setTop (mkF m 151 #[.val (.int p1), .val (.int p2), .val (.int p3), .val (.int p4), .val (.ref b1), .val (.int (own_p p3)), .val (.int (own_t p3)), .val (.int (own_p p4)), .val (.int (own_t p4)), .val (.ref b13), .val (.int (own_rh fx (own_p p3).toNatClampNeg (((own_t p3).toInt - (own_p p3).toInt).toNat) (0 : Int32))), .val (.int (own_rh fx (own_p p3).toNatClampNeg (((own_t p3).toInt - (own_p p3).toInt).toNat) (0 : Int32))), .unset] []))
  refine Gd.st (fun _ k => XS.aload X21.here hx rfl (hb hby at_151) rfl rfl k) ?_
  show Gd p.tables e below _ (T21.setTop (mkF m 153 #[.val (.int p1), .val (.int p2), .val (.int p3), .val (.int p4), .val (.ref b1), .val (.int (own_p p3)), .val (.int (own_t p3)), .val (.int (own_p p4)), .val (.int (own_t p4)), .val (.ref b13), .val (.int (own_rh fx (own_p p3).toNatClampNeg (((own_t p3).toInt - (own_p p3).toInt).toNat) (0 : Int32))), .val (.int (own_rh fx (own_p p3).toNatClampNeg (((own_t p3).toInt - (own_p p3).toInt).toNat) (0 : Int32))), .unset] [(.ref b13)]))
  have q24 := ((q18.keep K17 (ninS ne_b1_b13 nin0)).keep K21 (ninS ne_b1_b13 nin0))
  obtain ⟨cq23, kq23, q23a, q23b, q23c⟩ := isOf hZ rfl A21
  obtain ⟨_, _, ⟨T23, L23, k23, n23⟩, -, X23, ⟨Lc23, hQ23, l23, y23, z23⟩, st23⟩ := X21.virtualBack hx (y := (⟨"com/example/hereafter/hereafter/io/AsciiText", "hashCode", "()I"⟩ : MethodName)) (z := (⟨"com/example/hereafter/hereafter/io/AsciiText", "hashCode", "()I"⟩ : MethodName)) hown (mvT hZ (hw _ (List.mem_of_getElem? (i := 23) rfl))) (mvT hZ (hw _ (List.mem_of_getElem? (i := 24) rfl))) (notFace_of_selects (args := #[]) (mvT hZ (hw _ (List.mem_of_getElem? (i := 26) rfl)))) (mvT hZ (hw _ (List.mem_of_getElem? (i := 26) rfl))) (mvT hZ (hw _ (List.mem_of_getElem? (i := 25) rfl))) (by decide) (backOf (W := 0) (rmH l Z a0 hw [] b13 b1 (own_p p4) (own_t p4) (.int (own_rh fx (own_p p3).toNatClampNeg (((own_t p3).toInt - (own_p p3).toInt).toNat) (0 : Int32))) k1 fx (((own_t p4).toInt - (own_p p4).toInt).toNat) T21.heap n0 Z22 A21 F21_0 F21_1 F21_2 F21_3 F21_4 q24 ne_b1_b13 g_b13 (own_hb p4)) hZ (hw _ (List.mem_of_getElem? (i := 27) rfl)) (hw _ (List.mem_of_getElem? (i := 3) rfl)) (by decide) (by decide)) q23a q23c (g := (mkF m 153 #[.val (.int p1), .val (.int p2), .val (.int p3), .val (.int p4), .val (.ref b1), .val (.int (own_p p3)), .val (.int (own_t p3)), .val (.int (own_p p4)), .val (.int (own_t p4)), .val (.ref b13), .val (.int (own_rh fx (own_p p3).toNatClampNeg (((own_t p3).toInt - (own_p p3).toInt).toNat) (0 : Int32))), .val (.int (own_rh fx (own_p p3).toNatClampNeg (((own_t p3).toInt - (own_p p3).toInt).toNat) (0 : Int32))), .unset] [(.ref b13)])) rfl (by rw [hml]; rfl) (Steps.refl _) (argsL := []) (rest := []) (lenOf pd___I_3 rfl) rfl (by show 2 * 0 + _ ≤ _; exact Nat.le_of_eq rfl) (hb hby at_153) (fun _ _ => ⟨rfl, rfl, (by decide : 2 + 0 ≤ _), (by decide : 10 + 0 ≤ _)⟩)
  dsimp only [Pt.U, Pt.locs, Pt.cells, Pt.slots] at X23 l23 y23 z23 st23 hQ23
  simp only [Nat.add_zero, Nat.zero_add, Nat.reduceAdd] at y23 z23
  subst y23 z23
  obtain ⟨rfl, N23q, K23, A23, F23_0, F23_1, F23_2, F23_3, F23_4⟩ := hQ23
  have N23 : Fr n0 L23 := by rw [l23]; exact Fr.app N21 N23q
  clear l23
  refine Gd.st (fun _ k => st23.trans k) ?_
  have Z25 : n0 ≤ T23.heap.size := Nat.le_trans Z22 K23.1
  show Gd p.tables e below _ (T23.setTop (mkF m 156 #[.val (.int p1), .val (.int p2), .val (.int p3), .val (.int p4), .val (.ref b1), .val (.int (own_p p3)), .val (.int (own_t p3)), .val (.int (own_p p4)), .val (.int (own_t p4)), .val (.ref b13), .val (.int (own_rh fx (own_p p3).toNatClampNeg (((own_t p3).toInt - (own_p p3).toInt).toNat) (0 : Int32))), .val (.int (own_rh fx (own_p p3).toNatClampNeg (((own_t p3).toInt - (own_p p3).toInt).toNat) (0 : Int32))), .unset] [(.int (own_rh fx (own_p p4).toNatClampNeg (((own_t p4).toInt - (own_p p4).toInt).toNat) (0 : Int32)))]))
  refine Gd.st (fun _ k => XS.istore X23.here hx rfl (hb hby at_156) rfl (l' := #[.val (.int p1), .val (.int p2), .val (.int p3), .val (.int p4), .val (.ref b1), .val (.int (own_p p3)), .val (.int (own_t p3)), .val (.int (own_p p4)), .val (.int (own_t p4)), .val (.ref b13), .val (.int (own_rh fx (own_p p3).toNatClampNeg (((own_t p3).toInt - (own_p p3).toInt).toNat) (0 : Int32))), .val (.int (own_rh fx (own_p p3).toNatClampNeg (((own_t p3).toInt - (own_p p3).toInt).toNat) (0 : Int32))), .val (.int (own_rh fx (own_p p4).toNatClampNeg (((own_t p4).toInt - (own_p p4).toInt).toNat) (0 : Int32)))]) rfl k) ?_
  show Gd p.tables e below _ (T23.setTop (mkF m 158 #[.val (.int p1), .val (.int p2), .val (.int p3), .val (.int p4), .val (.ref b1), .val (.int (own_p p3)), .val (.int (own_t p3)), .val (.int (own_p p4)), .val (.int (own_t p4)), .val (.ref b13), .val (.int (own_rh fx (own_p p3).toNatClampNeg (((own_t p3).toInt - (own_p p3).toInt).toNat) (0 : Int32))), .val (.int (own_rh fx (own_p p3).toNatClampNeg (((own_t p3).toInt - (own_p p3).toInt).toNat) (0 : Int32))), .val (.int (own_rh fx (own_p p4).toNatClampNeg (((own_t p4).toInt - (own_p p4).toInt).toNat) (0 : Int32)))] []))
  refine Gd.st (fun _ k => XS.iload X23.here hx rfl (hb hby at_158) rfl k) ?_
  show Gd p.tables e below _ (T23.setTop (mkF m 160 #[.val (.int p1), .val (.int p2), .val (.int p3), .val (.int p4), .val (.ref b1), .val (.int (own_p p3)), .val (.int (own_t p3)), .val (.int (own_p p4)), .val (.int (own_t p4)), .val (.ref b13), .val (.int (own_rh fx (own_p p3).toNatClampNeg (((own_t p3).toInt - (own_p p3).toInt).toNat) (0 : Int32))), .val (.int (own_rh fx (own_p p3).toNatClampNeg (((own_t p3).toInt - (own_p p3).toInt).toNat) (0 : Int32))), .val (.int (own_rh fx (own_p p4).toNatClampNeg (((own_t p4).toInt - (own_p p4).toInt).toNat) (0 : Int32)))] [(.int (own_rh fx (own_p p3).toNatClampNeg (((own_t p3).toInt - (own_p p3).toInt).toNat) (0 : Int32)))]))
  refine Gd.st (fun _ k => XS.aload X23.here hx rfl (hb hby at_160) rfl rfl k) ?_
  show Gd p.tables e below _ (T23.setTop (mkF m 162 #[.val (.int p1), .val (.int p2), .val (.int p3), .val (.int p4), .val (.ref b1), .val (.int (own_p p3)), .val (.int (own_t p3)), .val (.int (own_p p4)), .val (.int (own_t p4)), .val (.ref b13), .val (.int (own_rh fx (own_p p3).toNatClampNeg (((own_t p3).toInt - (own_p p3).toInt).toNat) (0 : Int32))), .val (.int (own_rh fx (own_p p3).toNatClampNeg (((own_t p3).toInt - (own_p p3).toInt).toNat) (0 : Int32))), .val (.int (own_rh fx (own_p p4).toNatClampNeg (((own_t p4).toInt - (own_p p4).toInt).toNat) (0 : Int32)))] [(.ref b1), (.int (own_rh fx (own_p p3).toNatClampNeg (((own_t p3).toInt - (own_p p3).toInt).toNat) (0 : Int32)))]))
  refine Gd.st (fun _ k => XS.iload X23.here hx rfl (hb hby at_162) rfl k) ?_
  show Gd p.tables e below _ (T23.setTop (mkF m 164 #[.val (.int p1), .val (.int p2), .val (.int p3), .val (.int p4), .val (.ref b1), .val (.int (own_p p3)), .val (.int (own_t p3)), .val (.int (own_p p4)), .val (.int (own_t p4)), .val (.ref b13), .val (.int (own_rh fx (own_p p3).toNatClampNeg (((own_t p3).toInt - (own_p p3).toInt).toNat) (0 : Int32))), .val (.int (own_rh fx (own_p p3).toNatClampNeg (((own_t p3).toInt - (own_p p3).toInt).toNat) (0 : Int32))), .val (.int (own_rh fx (own_p p4).toNatClampNeg (((own_t p4).toInt - (own_p p4).toInt).toNat) (0 : Int32)))] [(.int (own_p p3)), (.ref b1), (.int (own_rh fx (own_p p3).toNatClampNeg (((own_t p3).toInt - (own_p p3).toInt).toNat) (0 : Int32)))]))
  refine Gd.st (fun _ k => XS.iload X23.here hx rfl (hb hby at_164) rfl k) ?_
  show Gd p.tables e below _ (T23.setTop (mkF m 166 #[.val (.int p1), .val (.int p2), .val (.int p3), .val (.int p4), .val (.ref b1), .val (.int (own_p p3)), .val (.int (own_t p3)), .val (.int (own_p p4)), .val (.int (own_t p4)), .val (.ref b13), .val (.int (own_rh fx (own_p p3).toNatClampNeg (((own_t p3).toInt - (own_p p3).toInt).toNat) (0 : Int32))), .val (.int (own_rh fx (own_p p3).toNatClampNeg (((own_t p3).toInt - (own_p p3).toInt).toNat) (0 : Int32))), .val (.int (own_rh fx (own_p p4).toNatClampNeg (((own_t p4).toInt - (own_p p4).toInt).toNat) (0 : Int32)))] [(.int (own_t p3)), (.int (own_p p3)), (.ref b1), (.int (own_rh fx (own_p p3).toNatClampNeg (((own_t p3).toInt - (own_p p3).toInt).toNat) (0 : Int32)))]))
  have q27 := (q24.keep K23 (ninS ne_b1_b13 nin0))
  obtain ⟨_, _, ⟨T26, L26, k26, n26⟩, -, X26, ⟨Lc26, hQ26, l26, y26, z26⟩, st26⟩ := Jvm.LawKit.callS X23 hx (y := (⟨"com/example/hereafter/hereafter/io/AsciiTextHashCodePinLaw", "ref", "([BII)I"⟩ : MethodName)) hown (mvT hZ (hw _ (List.mem_of_getElem? (i := 31) rfl))) (mvT hZ (hw _ (List.mem_of_getElem? (i := 32) rfl))) (mvT hZ (hw _ (List.mem_of_getElem? (i := 33) rfl))) (mvT hZ (hw _ (List.mem_of_getElem? (i := 34) rfl))) (by decide) (backOf (W := 1) (rm5 l Z a0 hw [] b1 (own_p p3) (own_t p3) k1 fx T23.heap n0 Z25 q27) hZ (hw _ (List.mem_of_getElem? (i := 34) rfl)) (hw _ (List.mem_of_getElem? (i := 33) rfl)) (by decide) (by decide)) (g := (mkF m 166 #[.val (.int p1), .val (.int p2), .val (.int p3), .val (.int p4), .val (.ref b1), .val (.int (own_p p3)), .val (.int (own_t p3)), .val (.int (own_p p4)), .val (.int (own_t p4)), .val (.ref b13), .val (.int (own_rh fx (own_p p3).toNatClampNeg (((own_t p3).toInt - (own_p p3).toInt).toNat) (0 : Int32))), .val (.int (own_rh fx (own_p p3).toNatClampNeg (((own_t p3).toInt - (own_p p3).toInt).toNat) (0 : Int32))), .val (.int (own_rh fx (own_p p4).toNatClampNeg (((own_t p4).toInt - (own_p p4).toInt).toNat) (0 : Int32)))] [(.int (own_t p3)), (.int (own_p p3)), (.ref b1), (.int (own_rh fx (own_p p3).toNatClampNeg (((own_t p3).toInt - (own_p p3).toInt).toNat) (0 : Int32)))])) rfl (by rw [hml]; rfl) (argsL := [(.ref b1), (.int (own_p p3)), (.int (own_t p3))]) (rest := [(.int (own_rh fx (own_p p3).toNatClampNeg (((own_t p3).toInt - (own_p p3).toInt).toNat) (0 : Int32)))]) (lenOf pd__ABII_I_7 rfl) rfl (by show 2 * 0 + _ ≤ _; exact Nat.le_of_eq rfl) (hb hby at_166) (fun _ _ => ⟨rfl, rfl, (by decide : 2 + 0 ≤ _), (by decide : 10 + 0 ≤ _)⟩)
  dsimp only [Pt.U, Pt.locs, Pt.cells, Pt.slots] at X26 l26 y26 z26 st26 hQ26
  simp only [Nat.add_zero, Nat.zero_add, Nat.reduceAdd] at y26 z26
  subst y26 z26
  obtain ⟨rfl, N26q, eh26⟩ := hQ26
  have N26 : Fr n0 L26 := by rw [l26]; exact Fr.app N23 N26q
  clear l26
  refine Gd.st st26 ?_
  have e26 : T26.heap = T23.heap := eh26
  show Gd p.tables e below _ (T26.setTop (mkF m 169 #[.val (.int p1), .val (.int p2), .val (.int p3), .val (.int p4), .val (.ref b1), .val (.int (own_p p3)), .val (.int (own_t p3)), .val (.int (own_p p4)), .val (.int (own_t p4)), .val (.ref b13), .val (.int (own_rh fx (own_p p3).toNatClampNeg (((own_t p3).toInt - (own_p p3).toInt).toNat) (0 : Int32))), .val (.int (own_rh fx (own_p p3).toNatClampNeg (((own_t p3).toInt - (own_p p3).toInt).toNat) (0 : Int32))), .val (.int (own_rh fx (own_p p4).toNatClampNeg (((own_t p4).toInt - (own_p p4).toInt).toNat) (0 : Int32)))] [(.int (own_ref fx (own_p p3) (own_t p3))), (.int (own_rh fx (own_p p3).toNatClampNeg (((own_t p3).toInt - (own_p p3).toInt).toNat) (0 : Int32)))]))
  refine Gd.st (fun _ k => XS.icmpNo X26.here hx rfl (hb hby at_169) rfl (teq (own_law _ p3)).2 k) ?_
  show Gd p.tables e below _ (T26.setTop (mkF m 172 #[.val (.int p1), .val (.int p2), .val (.int p3), .val (.int p4), .val (.ref b1), .val (.int (own_p p3)), .val (.int (own_t p3)), .val (.int (own_p p4)), .val (.int (own_t p4)), .val (.ref b13), .val (.int (own_rh fx (own_p p3).toNatClampNeg (((own_t p3).toInt - (own_p p3).toInt).toNat) (0 : Int32))), .val (.int (own_rh fx (own_p p3).toNatClampNeg (((own_t p3).toInt - (own_p p3).toInt).toNat) (0 : Int32))), .val (.int (own_rh fx (own_p p4).toNatClampNeg (((own_t p4).toInt - (own_p p4).toInt).toNat) (0 : Int32)))] []))
  refine Gd.st (fun _ k => XS.iload X26.here hx rfl (hb hby at_172) rfl k) ?_
  show Gd p.tables e below _ (T26.setTop (mkF m 174 #[.val (.int p1), .val (.int p2), .val (.int p3), .val (.int p4), .val (.ref b1), .val (.int (own_p p3)), .val (.int (own_t p3)), .val (.int (own_p p4)), .val (.int (own_t p4)), .val (.ref b13), .val (.int (own_rh fx (own_p p3).toNatClampNeg (((own_t p3).toInt - (own_p p3).toInt).toNat) (0 : Int32))), .val (.int (own_rh fx (own_p p3).toNatClampNeg (((own_t p3).toInt - (own_p p3).toInt).toNat) (0 : Int32))), .val (.int (own_rh fx (own_p p4).toNatClampNeg (((own_t p4).toInt - (own_p p4).toInt).toNat) (0 : Int32)))] [(.int (own_rh fx (own_p p3).toNatClampNeg (((own_t p3).toInt - (own_p p3).toInt).toNat) (0 : Int32)))]))
  refine Gd.st (fun _ k => XS.iload X26.here hx rfl (hb hby at_174) rfl k) ?_
  show Gd p.tables e below _ (T26.setTop (mkF m 176 #[.val (.int p1), .val (.int p2), .val (.int p3), .val (.int p4), .val (.ref b1), .val (.int (own_p p3)), .val (.int (own_t p3)), .val (.int (own_p p4)), .val (.int (own_t p4)), .val (.ref b13), .val (.int (own_rh fx (own_p p3).toNatClampNeg (((own_t p3).toInt - (own_p p3).toInt).toNat) (0 : Int32))), .val (.int (own_rh fx (own_p p3).toNatClampNeg (((own_t p3).toInt - (own_p p3).toInt).toNat) (0 : Int32))), .val (.int (own_rh fx (own_p p4).toNatClampNeg (((own_t p4).toInt - (own_p p4).toInt).toNat) (0 : Int32)))] [(.int (own_rh fx (own_p p3).toNatClampNeg (((own_t p3).toInt - (own_p p3).toInt).toNat) (0 : Int32))), (.int (own_rh fx (own_p p3).toNatClampNeg (((own_t p3).toInt - (own_p p3).toInt).toNat) (0 : Int32)))]))
  refine Gd.st (fun _ k => XS.icmpNo X26.here hx rfl (hb hby at_176) rfl (teq rfl).2 k) ?_
  show Gd p.tables e below _ (T26.setTop (mkF m 179 #[.val (.int p1), .val (.int p2), .val (.int p3), .val (.int p4), .val (.ref b1), .val (.int (own_p p3)), .val (.int (own_t p3)), .val (.int (own_p p4)), .val (.int (own_t p4)), .val (.ref b13), .val (.int (own_rh fx (own_p p3).toNatClampNeg (((own_t p3).toInt - (own_p p3).toInt).toNat) (0 : Int32))), .val (.int (own_rh fx (own_p p3).toNatClampNeg (((own_t p3).toInt - (own_p p3).toInt).toNat) (0 : Int32))), .val (.int (own_rh fx (own_p p4).toNatClampNeg (((own_t p4).toInt - (own_p p4).toInt).toNat) (0 : Int32)))] []))
  refine Gd.st (fun _ k => XS.iload X26.here hx rfl (hb hby at_179) rfl k) ?_
  show Gd p.tables e below _ (T26.setTop (mkF m 181 #[.val (.int p1), .val (.int p2), .val (.int p3), .val (.int p4), .val (.ref b1), .val (.int (own_p p3)), .val (.int (own_t p3)), .val (.int (own_p p4)), .val (.int (own_t p4)), .val (.ref b13), .val (.int (own_rh fx (own_p p3).toNatClampNeg (((own_t p3).toInt - (own_p p3).toInt).toNat) (0 : Int32))), .val (.int (own_rh fx (own_p p3).toNatClampNeg (((own_t p3).toInt - (own_p p3).toInt).toNat) (0 : Int32))), .val (.int (own_rh fx (own_p p4).toNatClampNeg (((own_t p4).toInt - (own_p p4).toInt).toNat) (0 : Int32)))] [(.int (own_rh fx (own_p p4).toNatClampNeg (((own_t p4).toInt - (own_p p4).toInt).toNat) (0 : Int32)))]))
  refine Gd.st (fun _ k => XS.aload X26.here hx rfl (hb hby at_181) rfl rfl k) ?_
  show Gd p.tables e below _ (T26.setTop (mkF m 183 #[.val (.int p1), .val (.int p2), .val (.int p3), .val (.int p4), .val (.ref b1), .val (.int (own_p p3)), .val (.int (own_t p3)), .val (.int (own_p p4)), .val (.int (own_t p4)), .val (.ref b13), .val (.int (own_rh fx (own_p p3).toNatClampNeg (((own_t p3).toInt - (own_p p3).toInt).toNat) (0 : Int32))), .val (.int (own_rh fx (own_p p3).toNatClampNeg (((own_t p3).toInt - (own_p p3).toInt).toNat) (0 : Int32))), .val (.int (own_rh fx (own_p p4).toNatClampNeg (((own_t p4).toInt - (own_p p4).toInt).toNat) (0 : Int32)))] [(.ref b1), (.int (own_rh fx (own_p p4).toNatClampNeg (((own_t p4).toInt - (own_p p4).toInt).toNat) (0 : Int32)))]))
  refine Gd.st (fun _ k => XS.iload X26.here hx rfl (hb hby at_183) rfl k) ?_
  show Gd p.tables e below _ (T26.setTop (mkF m 185 #[.val (.int p1), .val (.int p2), .val (.int p3), .val (.int p4), .val (.ref b1), .val (.int (own_p p3)), .val (.int (own_t p3)), .val (.int (own_p p4)), .val (.int (own_t p4)), .val (.ref b13), .val (.int (own_rh fx (own_p p3).toNatClampNeg (((own_t p3).toInt - (own_p p3).toInt).toNat) (0 : Int32))), .val (.int (own_rh fx (own_p p3).toNatClampNeg (((own_t p3).toInt - (own_p p3).toInt).toNat) (0 : Int32))), .val (.int (own_rh fx (own_p p4).toNatClampNeg (((own_t p4).toInt - (own_p p4).toInt).toNat) (0 : Int32)))] [(.int (own_p p4)), (.ref b1), (.int (own_rh fx (own_p p4).toNatClampNeg (((own_t p4).toInt - (own_p p4).toInt).toNat) (0 : Int32)))]))
  refine Gd.st (fun _ k => XS.iload X26.here hx rfl (hb hby at_185) rfl k) ?_
  show Gd p.tables e below _ (T26.setTop (mkF m 187 #[.val (.int p1), .val (.int p2), .val (.int p3), .val (.int p4), .val (.ref b1), .val (.int (own_p p3)), .val (.int (own_t p3)), .val (.int (own_p p4)), .val (.int (own_t p4)), .val (.ref b13), .val (.int (own_rh fx (own_p p3).toNatClampNeg (((own_t p3).toInt - (own_p p3).toInt).toNat) (0 : Int32))), .val (.int (own_rh fx (own_p p3).toNatClampNeg (((own_t p3).toInt - (own_p p3).toInt).toNat) (0 : Int32))), .val (.int (own_rh fx (own_p p4).toNatClampNeg (((own_t p4).toInt - (own_p p4).toInt).toNat) (0 : Int32)))] [(.int (own_t p4)), (.int (own_p p4)), (.ref b1), (.int (own_rh fx (own_p p4).toNatClampNeg (((own_t p4).toInt - (own_p p4).toInt).toNat) (0 : Int32)))]))
  obtain ⟨_, _, ⟨T28, L28, k28, n28⟩, -, X28, ⟨Lc28, hQ28, l28, y28, z28⟩, st28⟩ := Jvm.LawKit.callS X26 hx (y := (⟨"com/example/hereafter/hereafter/io/AsciiTextHashCodePinLaw", "ref", "([BII)I"⟩ : MethodName)) hown (mvT hZ (hw _ (List.mem_of_getElem? (i := 31) rfl))) (mvT hZ (hw _ (List.mem_of_getElem? (i := 32) rfl))) (mvT hZ (hw _ (List.mem_of_getElem? (i := 33) rfl))) (mvT hZ (hw _ (List.mem_of_getElem? (i := 34) rfl))) (by decide) (backOf (W := 1) (rm5 l Z a0 hw [] b1 (own_p p4) (own_t p4) k1 fx T23.heap n0 Z25 q27) hZ (hw _ (List.mem_of_getElem? (i := 34) rfl)) (hw _ (List.mem_of_getElem? (i := 33) rfl)) (by decide) (by decide)) (g := (mkF m 187 #[.val (.int p1), .val (.int p2), .val (.int p3), .val (.int p4), .val (.ref b1), .val (.int (own_p p3)), .val (.int (own_t p3)), .val (.int (own_p p4)), .val (.int (own_t p4)), .val (.ref b13), .val (.int (own_rh fx (own_p p3).toNatClampNeg (((own_t p3).toInt - (own_p p3).toInt).toNat) (0 : Int32))), .val (.int (own_rh fx (own_p p3).toNatClampNeg (((own_t p3).toInt - (own_p p3).toInt).toNat) (0 : Int32))), .val (.int (own_rh fx (own_p p4).toNatClampNeg (((own_t p4).toInt - (own_p p4).toInt).toNat) (0 : Int32)))] [(.int (own_t p4)), (.int (own_p p4)), (.ref b1), (.int (own_rh fx (own_p p4).toNatClampNeg (((own_t p4).toInt - (own_p p4).toInt).toNat) (0 : Int32)))])) rfl (by rw [hml]; rfl) (argsL := [(.ref b1), (.int (own_p p4)), (.int (own_t p4))]) (rest := [(.int (own_rh fx (own_p p4).toNatClampNeg (((own_t p4).toInt - (own_p p4).toInt).toNat) (0 : Int32)))]) (lenOf pd__ABII_I_7 rfl) rfl (by show 2 * 0 + _ ≤ _; exact Nat.le_of_eq rfl) (hb hby at_187) (fun _ _ => ⟨rfl, e26, (by decide : 2 + 0 ≤ _), (by decide : 10 + 0 ≤ _)⟩)
  dsimp only [Pt.U, Pt.locs, Pt.cells, Pt.slots] at X28 l28 y28 z28 st28 hQ28
  simp only [Nat.add_zero, Nat.zero_add, Nat.reduceAdd] at y28 z28
  subst y28 z28
  obtain ⟨rfl, N28q, eh28⟩ := hQ28
  have N28 : Fr n0 L28 := by rw [l28]; exact Fr.app N26 N28q
  clear l28
  refine Gd.st st28 ?_
  have e28 : T28.heap = T23.heap := eh28
  show Gd p.tables e below _ (T28.setTop (mkF m 190 #[.val (.int p1), .val (.int p2), .val (.int p3), .val (.int p4), .val (.ref b1), .val (.int (own_p p3)), .val (.int (own_t p3)), .val (.int (own_p p4)), .val (.int (own_t p4)), .val (.ref b13), .val (.int (own_rh fx (own_p p3).toNatClampNeg (((own_t p3).toInt - (own_p p3).toInt).toNat) (0 : Int32))), .val (.int (own_rh fx (own_p p3).toNatClampNeg (((own_t p3).toInt - (own_p p3).toInt).toNat) (0 : Int32))), .val (.int (own_rh fx (own_p p4).toNatClampNeg (((own_t p4).toInt - (own_p p4).toInt).toNat) (0 : Int32)))] [(.int (own_ref fx (own_p p4) (own_t p4))), (.int (own_rh fx (own_p p4).toNatClampNeg (((own_t p4).toInt - (own_p p4).toInt).toNat) (0 : Int32)))]))
  refine Gd.st (fun _ k => XS.icmpNo X28.here hx rfl (hb hby at_190) rfl (teq (own_law _ p4)).2 k) ?_
  show Gd p.tables e below _ (T28.setTop (mkF m 193 #[.val (.int p1), .val (.int p2), .val (.int p3), .val (.int p4), .val (.ref b1), .val (.int (own_p p3)), .val (.int (own_t p3)), .val (.int (own_p p4)), .val (.int (own_t p4)), .val (.ref b13), .val (.int (own_rh fx (own_p p3).toNatClampNeg (((own_t p3).toInt - (own_p p3).toInt).toNat) (0 : Int32))), .val (.int (own_rh fx (own_p p3).toNatClampNeg (((own_t p3).toInt - (own_p p3).toInt).toNat) (0 : Int32))), .val (.int (own_rh fx (own_p p4).toNatClampNeg (((own_t p4).toInt - (own_p p4).toInt).toNat) (0 : Int32)))] []))
  refine Gd.st (fun _ k => XS.iconst X28.here hx rfl (hb hby at_193) k) ?_
  show Gd p.tables e below _ (T28.setTop (mkF m 194 #[.val (.int p1), .val (.int p2), .val (.int p3), .val (.int p4), .val (.ref b1), .val (.int (own_p p3)), .val (.int (own_t p3)), .val (.int (own_p p4)), .val (.int (own_t p4)), .val (.ref b13), .val (.int (own_rh fx (own_p p3).toNatClampNeg (((own_t p3).toInt - (own_p p3).toInt).toNat) (0 : Int32))), .val (.int (own_rh fx (own_p p3).toNatClampNeg (((own_t p3).toInt - (own_p p3).toInt).toNat) (0 : Int32))), .val (.int (own_rh fx (own_p p4).toNatClampNeg (((own_t p4).toInt - (own_p p4).toInt).toNat) (0 : Int32)))] [(.int (1 : Int32))]))
  refine Gd.st (fun _ k => XS.goto X28.here hx rfl (pc0 := 194) (pc' := 198) rfl (hb hby at_194) (by decide) (by decide) k) ?_
  show Gd p.tables e below _ (T28.setTop (mkF m 198 #[.val (.int p1), .val (.int p2), .val (.int p3), .val (.int p4), .val (.ref b1), .val (.int (own_p p3)), .val (.int (own_t p3)), .val (.int (own_p p4)), .val (.int (own_t p4)), .val (.ref b13), .val (.int (own_rh fx (own_p p3).toNatClampNeg (((own_t p3).toInt - (own_p p3).toInt).toNat) (0 : Int32))), .val (.int (own_rh fx (own_p p3).toNatClampNeg (((own_t p3).toInt - (own_p p3).toInt).toNat) (0 : Int32))), .val (.int (own_rh fx (own_p p4).toNatClampNeg (((own_t p4).toInt - (own_p p4).toInt).toNat) (0 : Int32)))] [(.int (1 : Int32))]))
  obtain ⟨fs, hr, hrun, hended, hW, hsame⟩ := X28.leave (v := some (.int (1 : Int32))) (fun h => by rw [Bd.returns] at h; cases h) Bd.notSynchronized
  refine Gd.mk (o := .returned (some (.int (1 : Int32)))) (retN X28 hx (t := .boolean) Bd.returns (by simp) (hb hby at_198) hr) ⟨hrun, hended, _, _, rfl, ?_, ⟨_, rfl⟩, hW, hsame.mono (by decide) (by decide)⟩
  show Q0 Z p1 p2 p3 p4 h0 n0 _ T28.heap _
  rw [e28]
  exact ⟨rfl, N28⟩
set_option maxRecDepth 65536 in
set_option maxHeartbeats 40000000 in
theorem comes_1 {Post : Tables → Env → Array Value → State → Outcome → State → Prop} (hpost : ∀ tb e args s v u, (limb_1_1.after args s (.returned v) u = true ∧ limb_1_2.after args s (.returned v) u = true ∧ True) → FrameEnd s (.returned v) u (Jvm.fieldLocs frame_1_writes args s ++ Jvm.arrayLocs frame_1_arrays args s ++ Jvm.staticLocs frame_1_statics s) 16 128 → Post tb e args s (.returned v) u) :
    ArmFor flags0 classFile x code maxLocals ret World_1 tables_1 room_1 Calls_1 rest_1 Pre_1 Post := by
  intro l hfl _ _ p e ha hc hk s m args below hf hA hF happ hP
  obtain ⟨hcalls, hrest, hpre⟩ := hP
  obtain ⟨-, -, -, hnamed, -, -, -, hat⟩ := (Spec.applies_iff hf).mp happ
  obtain ⟨hg, hn⟩ := and_e (Cond.before_iff.mp (show (Jvm.Cond.and given_1 narrow_1).before args s = true from hpre))
  obtain ⟨g1, g2⟩ := and_e hg
  obtain ⟨g3, g4⟩ := and_e g2
  obtain ⟨g5, g6⟩ := and_e g4
  obtain ⟨g7, g8⟩ := and_e g6
  obtain ⟨w0, w1, w2, w3, rfl⟩ : ∃ w0 w1 w2 w3 : Value, args = #[w0, w1, w2, w3] := by
    have hs : args.size = 4 := by simpa [Cond.value, given_1] using g1
    obtain ⟨L⟩ := args
    match L, hs with
    | [w0, w1, w2, w3], _ => exact ⟨w0, w1, w2, w3, rfl⟩
  have hw := fun d (hd : d ∈ tables_1) => atoms_spec (ws := Jvm.Cond.code x code maxLocals ret :: tables_1) hat d (List.mem_cons_of_mem _ hd)
  obtain ⟨i0, ei0⟩ := is_v g3
  obtain rfl : w0 = (.int i0) := Option.some.inj ei0
  obtain ⟨i1, ei1⟩ := is_v g5
  obtain rfl : w1 = (.int i1) := Option.some.inj ei1
  obtain ⟨i2, ei2⟩ := is_v g7
  obtain rfl : w2 = (.int i2) := Option.some.inj ei2
  obtain ⟨i3, ei3⟩ := is_v g8
  obtain rfl : w3 = (.int i3) := Option.some.inj ei3
  obtain ⟨n, o, h1, h2, h3, _, L, rfl, ⟨rfl, N⟩, hq⟩ := rm0 l s _ hw tables_1 i0 i1 i2 i3 s.heap s.heap.size (Nat.le_refl _) p e ha hc hk s m _ below hf ((Spec.applies_iff_loose hf).mp happ).1 ⟨rfl, State.Warmed39.refl s, rfl⟩ trivial
  refine ⟨n, _, h1, h2, h3, hpost _ _ _ _ _ _ ⟨Cond.after_iff.mpr rfl, Cond.after_iff.mpr (eq_i res_at (Term.int_eval (1)) rfl), trivial⟩ ⟨hq.1, hq.2.1, (hq.2.2.sift fun y hy => Or.inr (N y hy)).mono (by decide) (by decide)⟩⟩
theorem main_1_1 : Claimed_1_1 := comes_1 fun _ _ _ _ _ _ h hF => ⟨h.1, hF⟩
theorem main_1_2 : Claimed_1_2 := comes_1 fun _ _ _ _ _ _ h hF => ⟨h.2.1, hF⟩
end Jvm.Pilot.@@N@@
namespace Jvm.Pilot.@@N@@
open Jvm Jvm.ClassFile Sem Op Lib Jvm.Free Jvm.Stand Jvm.Pilot.@@N@@.Jvm.D
/-! MADE BY PROGRAM (witnessworld.py) out of the Statement's table words and the real class files: 10 classes; the members and pool entries that the words name. The judged class is class 1, her method 1. -/
namespace start1
open Jvm.ClassFile
def u (s : String) : CpInfo := .utf8 (stringToUtf16 s)
/-- a pool by its gaps: so many unusable entries, then the entry; so many at the end -/
def gap : Nat → List CpInfo → List CpInfo
  | 0, r => r
  | n + 1, r => .unusable :: gap n r
def poolList (es : List (Nat × CpInfo)) (last : Nat) : List CpInfo := es.foldr (fun e r => gap e.1 (e.2 :: r)) (gap last [])
def pool (es : List (Nat × CpInfo)) (last : Nat) : Array CpInfo := ⟨poolList es last⟩
def fileOf (pool : Array CpInfo) (this : Nat) (attrs : Array Attribute := #[]) (ms : Array MethodInfo := #[]) (fl : Nat := 33) (sup : Nat := 0) (ifs : Array Nat := #[]) (fds : Array FieldInfo := #[]) : ClassFile where
  minorVersion := 0
  majorVersion := 65
  constantPool := pool
  accessFlags := fl
  thisClass := this
  superClass := sup
  interfaces := ifs
  fields := fds
  methods := ms
  attributes := attrs
def plain (name : String) (sup : Option ClassId) : Class where
  name := name
  kind := .ordinary
  loader := none
  accessFlags := 33
  super := sup
  interfaces := #[]
  cf := none
  fields := #[]
  methods := #[]
  instanceTypes := #[]
  staticTypes := #[]
  resolved := #[]
  callSites := []
  init := .initialized
  statics := none
  mirror := none

def pool0 : Array CpInfo := pool [(5, u "<init>"), (0, u "()V"), (1, .class_ 10), (1, u "java/lang/Object")] 113

def k0c0 : Code := { maxStack := 0, maxLocals := 1, code := object_method_1_code, exceptionTable := #[], attributes := #[] }
def k0m0 : Method := { name := "<init>", desc := "()V", sig := { parameters := [], returnType := none }, accessFlags := 1, code := some k0c0 }
/-- java/lang/Object -/
def k0 : Class := { plain "java/lang/Object" none with
  accessFlags := 33
  interfaces := #[]
  cf := some (fileOf pool0 8 #[] #[{ accessFlags := 1, nameIndex := 5, descriptorIndex := 6, attributes := #[] }] 33 0 #[] #[])
  fields := #[]
  methods := #[k0m0]
  instanceTypes := #[]
  staticTypes := #[]
  resolved := Array.replicate 124 none
  statics := none }

def pool1 : Array CpInfo := pool [(2, .class_ 4), (1, u "java/lang/Object"), (0, u "<init>"), (0, u "()V"), (0, .class_ 8), (0, u "com/example/hereafter/hereafter/io/AsciiText"), (0, .methodref 7 10), (0, .nameAndType 5 11), (0, u "([BII)V"), (0, .methodref 7 13), (0, .nameAndType 14 15), (0, u "hashCode"), (0, u "()I"), (0, .methodref 7 17), (0, .nameAndType 18 11), (0, u "set"), (0, .methodref 20 21), (0, .class_ 22), (0, .nameAndType 23 24), (0, u "com/example/hereafter/hereafter/io/AsciiTextHashCodePinLaw"), (0, u "ref"), (0, u "([BII)I"), (2, u "law"), (0, u "(IIII)Z")] 5

def k1m0 : Method := { name := "<init>", desc := "()V", sig := { parameters := [], returnType := none }, accessFlags := 1, code := none }
def k1c1 : Code := { maxStack := 5, maxLocals := 13, code := code, exceptionTable := #[], attributes := #[] }
def k1m1 : Method := { name := "law", desc := "(IIII)Z", sig := { parameters := [.int, .int, .int, .int], returnType := some .boolean }, accessFlags := 9, code := some k1c1 }
def k1c2 : Code := { maxStack := 3, maxLocals := 4, code := method_3_code, exceptionTable := #[], attributes := #[] }
def k1m2 : Method := { name := "ref", desc := "([BII)I", sig := { parameters := [(.array .byte), .int, .int], returnType := some .int }, accessFlags := 10, code := some k1c2 }
/-- com/example/hereafter/hereafter/io/AsciiTextHashCodePinLaw -/
def k1 : Class := { plain "com/example/hereafter/hereafter/io/AsciiTextHashCodePinLaw" (some 0) with
  accessFlags := 49
  interfaces := #[]
  cf := some (fileOf pool1 20 #[] #[{ accessFlags := 1, nameIndex := 5, descriptorIndex := 6, attributes := #[] }, { accessFlags := 9, nameIndex := 27, descriptorIndex := 28, attributes := #[] }, { accessFlags := 10, nameIndex := 23, descriptorIndex := 24, attributes := #[] }] 49 2 #[] #[])
  fields := #[]
  methods := #[k1m0, k1m1, k1m2]
  instanceTypes := #[]
  staticTypes := #[]
  resolved := Array.replicate 34 none
  statics := none }

def pool2 : Array CpInfo := pool [(2, .class_ 4), (1, u "java/lang/CharSequence"), (42, .class_ 48), (0, u "java/lang/CharSequence$1CodePointIterator"), (10, .class_ 60), (0, u "java/lang/CharSequence$1CharIterator"), (5, .class_ 67), (0, u "java/lang/Object")] 63

/-- java/lang/CharSequence -/
def k2 : Class := { plain "java/lang/CharSequence" (some 0) with
  accessFlags := 1537
  interfaces := #[]
  cf := some (fileOf pool2 2 #[.nestMembers #[47, 59]] #[] 1537 66 #[] #[])
  fields := #[]
  methods := #[]
  instanceTypes := #[]
  staticTypes := #[]
  resolved := Array.replicate 131 none
  statics := none }

def pool3 : Array CpInfo := pool [(1, .methodref 2 3), (0, .class_ 4), (0, .nameAndType 5 6), (0, u "java/lang/Object"), (0, u "<init>"), (0, u "()V"), (0, .methodref 8 9), (0, .class_ 10), (0, .nameAndType 11 12), (0, u "com/example/hereafter/hereafter/io/AsciiText"), (0, u "set"), (0, u "([BII)V"), (0, .fieldref 8 14), (0, .nameAndType 15 16), (0, u "bytes"), (0, u "[B"), (0, .fieldref 8 18), (0, .nameAndType 19 20), (0, u "from"), (0, u "I"), (0, .fieldref 8 22), (0, .nameAndType 23 20), (0, u "to"), (0, .fieldref 8 25), (0, .nameAndType 26 27), (0, u "hashed"), (0, u "Z"), (26, u "hashCode"), (0, u "()I"), (0, .fieldref 8 57), (0, .nameAndType 58 20), (0, u "hash"), (11, .class_ 71), (0, u "java/lang/CharSequence")] 35

def k3c0 : Code := { maxStack := 4, maxLocals := 4, code := prog_6_method_1_code, exceptionTable := #[], attributes := #[] }
def k3m0 : Method := { name := "<init>", desc := "([BII)V", sig := { parameters := [(.array .byte), .int, .int], returnType := none }, accessFlags := 0, code := some k3c0 }
def k3c1 : Code := { maxStack := 2, maxLocals := 4, code := prog_6_method_2_code, exceptionTable := #[], attributes := #[] }
def k3m1 : Method := { name := "set", desc := "([BII)V", sig := { parameters := [(.array .byte), .int, .int], returnType := none }, accessFlags := 0, code := some k3c1 }
def k3c2 : Code := { maxStack := 3, maxLocals := 3, code := prog_6_method_10_code, exceptionTable := #[], attributes := #[] }
def k3m2 : Method := { name := "hashCode", desc := "()I", sig := { parameters := [], returnType := some .int }, accessFlags := 1, code := some k3c2 }
/-- com/example/hereafter/hereafter/io/AsciiText -/
def k3 : Class := { plain "com/example/hereafter/hereafter/io/AsciiText" (some 0) with
  accessFlags := 32
  interfaces := #[2]
  cf := some (fileOf pool3 8 #[] #[{ accessFlags := 0, nameIndex := 5, descriptorIndex := 12, attributes := #[] }, { accessFlags := 0, nameIndex := 11, descriptorIndex := 12, attributes := #[] }, { accessFlags := 1, nameIndex := 54, descriptorIndex := 55, attributes := #[] }] 32 2 #[70] #[{ accessFlags := 2, nameIndex := 15, descriptorIndex := 16, attributes := #[] }, { accessFlags := 2, nameIndex := 19, descriptorIndex := 20, attributes := #[] }, { accessFlags := 2, nameIndex := 23, descriptorIndex := 20, attributes := #[] }, { accessFlags := 2, nameIndex := 58, descriptorIndex := 20, attributes := #[] }, { accessFlags := 2, nameIndex := 26, descriptorIndex := 27, attributes := #[] }])
  fields := #[{ name := "bytes", type := (.array .byte), accessFlags := 2, slot := 0, constantValue := 0 }, { name := "from", type := .int, accessFlags := 2, slot := 1, constantValue := 0 }, { name := "to", type := .int, accessFlags := 2, slot := 2, constantValue := 0 }, { name := "hash", type := .int, accessFlags := 2, slot := 3, constantValue := 0 }, { name := "hashed", type := .boolean, accessFlags := 2, slot := 4, constantValue := 0 }]
  methods := #[k3m0, k3m1, k3m2]
  instanceTypes := #[(.array .byte), .int, .int, .int, .boolean]
  staticTypes := #[]
  resolved := Array.replicate 107 none
  statics := none }

def pool4 : Array CpInfo := pool [(1, u "java/lang/Cloneable"), (0, .class_ 1), (0, u "java/lang/Object"), (0, .class_ 3)] 3

/-- java/lang/Cloneable -/
def k4 : Class := { plain "java/lang/Cloneable" (some 0) with
  accessFlags := 1537
  interfaces := #[]
  cf := some (fileOf pool4 2 #[] #[] 1537 4 #[] #[])
  fields := #[]
  methods := #[]
  instanceTypes := #[]
  staticTypes := #[]
  resolved := Array.replicate 8 none
  statics := none }

def pool5 : Array CpInfo := pool [(1, u "java/io/Serializable"), (0, .class_ 1), (0, u "java/lang/Object"), (0, .class_ 3)] 3

/-- java/io/Serializable -/
def k5 : Class := { plain "java/io/Serializable" (some 0) with
  accessFlags := 1537
  interfaces := #[]
  cf := some (fileOf pool5 2 #[] #[] 1537 4 #[] #[])
  fields := #[]
  methods := #[]
  instanceTypes := #[]
  staticTypes := #[]
  resolved := Array.replicate 8 none
  statics := none }

/-- the primitive byte -/
def k6 : Class := { plain "byte" none with kind := .primitive 'B', accessFlags := 0x411 }
/-- [B -/
def k7 : Class := { plain "[B" (some 0) with kind := .array 6 .byte, interfaces := #[4, 5], accessFlags := 1041 }

/-- the primitive int -/
def k8 : Class := { plain "int" none with kind := .primitive 'I', accessFlags := 0x411 }
/-- [I -/
def k9 : Class := { plain "[I" (some 0) with kind := .array 8 .int, interfaces := #[4, 5], accessFlags := 1041 }

def heap : Heap := #[]
def classes : Array Class := #[k0, k1, k2, k3, k4, k5, k6, k7, k8, k9]
def interned : List (Array UInt16 × Addr) := []
def slotsUsed : Nat := 0
def theMethod : MethodId := ⟨1, 1⟩
def args0 : Array Value := #[.int 5, .int 5, .int 5, .int 5]
def aboutOver (below : List Frame) : State where
  vm := { classes := classes, interned := interned.toArray }
  heap := heap
  slotsUsed := slotsUsed
  threads := #[{ frames := .invoking theMethod args0 :: below }]
def below0 : List Frame := [.native { method := ⟨0, 0⟩, args := #[] }]
def about1 : State := aboutOver below0
def p0 : Program := .bare "" "" ""
def e0 : Env := launch0.env 0 0 0
theorem w_frames : about1.frames = Frame.invoking theMethod args0 :: below0 := rfl
set_option maxRecDepth 65536 in
theorem w_args : argsFit about1.vm theMethod args0 = true := by decide +kernel
set_option maxRecDepth 65536 in
theorem w_heap : heapFits about1 = true := by decide +kernel
set_option maxRecDepth 65536 in
theorem w_runnable : about1.curStatus? = some .runnable := by decide +kernel
set_option maxRecDepth 65536 in
theorem w_alone : about1.alone = true := by decide +kernel
set_option maxRecDepth 65536 in
theorem w_named : about1.methodNamed? x = some theMethod := by decide +kernel
set_option maxRecDepth 65536 in
theorem w_hears : about1.hears theMethod below0 = true := by decide +kernel
set_option maxRecDepth 65536 in
theorem w_ripe : about1.ripe theMethod args0 below0 = true := by decide +kernel
theorem w_running : about1.status = .running := rfl
set_option maxRecDepth 65536 in
theorem w_room : about1.hasRoom e0.platform room_1 = true :=
  launch0.hasRoom_least _ room_1 (by decide +kernel) (by decide +kernel) (by decide +kernel) (by decide +kernel) (by decide +kernel) (by decide +kernel)
theorem allAtoms_all (ts : List Jvm.Cond) (a : Array Jvm.Value) (st : Jvm.State) : (allAtoms ts).before a st = ts.all (fun c => c.before a st) := by
  induction ts with
  | nil => rfl
  | cons c t ih =>
    show (Jvm.Cond.and c (allAtoms t)).before a st = _
    rw [Jvm.Cond.before_and, ih, List.all_cons]
def words1 : List Jvm.Cond := Jvm.Cond.code x code maxLocals ret :: tables_1
/-- a 'code' word, met by the world's own term for the bytes: nothing is compared byte by byte -/
theorem code_word {y : MethodName} {bytes : ByteArray} {mx : Nat} {rt : Option FieldType} {a : Array Value} {s : State} {m : MethodId} {meth : Method} {c : Code} (h1 : s.methodNamed? y = some m) (h2 : s.vm.method? m = some meth) (h3 : meth.code = some c) (h4 : c.code = bytes)
    (h5 : (c.maxLocals == mx && c.exceptionTable.isEmpty && decide (c.maxStack ≤ mostOperands) && decide (meth.sig.returnType = rt) && !meth.locks && decide (parseMethodDescriptor y.desc = some meth.sig)) = true) : (Jvm.Cond.code y bytes mx rt).before a s = true := by
  simp only [Bool.and_eq_true, beq_iff_eq, Bool.not_eq_true', decide_eq_true_eq] at h5
  obtain ⟨⟨⟨⟨⟨g1, g2⟩, g3⟩, g4⟩, g5⟩, g6⟩ := h5
  simp [Cond.before, Cond.holds, Cond.value, h1, h2, h3, h4, g1, g2, g3, g4, g5, g6]
def isCode : Jvm.Cond → Bool
  | .code _ _ _ _ => true
  | _ => false
theorem all_split {L : List Jvm.Cond} {P : Jvm.Cond → Bool} (h1 : L.all (fun c => isCode c || P c) = true) (h2 : ∀ c ∈ L.filter isCode, P c = true) : L.all P = true := by
  refine List.all_eq_true.mpr fun c hc => ?_
  have h := List.all_eq_true.mp h1 c hc
  rcases Bool.eq_false_or_eq_true (isCode c) with hi | hi
  · exact h2 c (List.mem_filter.mpr ⟨hc, hi⟩)
  · simpa [hi] using h
set_option maxRecDepth 65536 in
theorem w_c0 : (Jvm.Cond.code x code maxLocals ret).before args0 about1 = true := code_word (m := ⟨1, 1⟩) (meth := k1m1) (c := k1c1) (by decide +kernel) rfl rfl rfl (by decide +kernel)
set_option maxRecDepth 65536 in
theorem w_c1 : (Jvm.Cond.code ({ cls := "com/example/hereafter/hereafter/io/AsciiText", name := "<init>", desc := "([BII)V" } : Jvm.MethodName) prog_6_method_1_code (4 : Nat) (Option.none : Option Jvm.ClassFile.FieldType)).before args0 about1 = true := code_word (m := ⟨3, 0⟩) (meth := k3m0) (c := k3c0) (by decide +kernel) rfl rfl rfl (by decide +kernel)
set_option maxRecDepth 65536 in
theorem w_c2 : (Jvm.Cond.code ({ cls := "java/lang/Object", name := "<init>", desc := "()V" } : Jvm.MethodName) object_method_1_code (1 : Nat) (Option.none : Option Jvm.ClassFile.FieldType)).before args0 about1 = true := code_word (m := ⟨0, 0⟩) (meth := k0m0) (c := k0c0) (by decide +kernel) rfl rfl rfl (by decide +kernel)
set_option maxRecDepth 65536 in
theorem w_c3 : (Jvm.Cond.code ({ cls := "com/example/hereafter/hereafter/io/AsciiText", name := "set", desc := "([BII)V" } : Jvm.MethodName) prog_6_method_2_code (4 : Nat) (Option.none : Option Jvm.ClassFile.FieldType)).before args0 about1 = true := code_word (m := ⟨3, 1⟩) (meth := k3m1) (c := k3c1) (by decide +kernel) rfl rfl rfl (by decide +kernel)
set_option maxRecDepth 65536 in
theorem w_c4 : (Jvm.Cond.code ({ cls := "com/example/hereafter/hereafter/io/AsciiText", name := "hashCode", desc := "()I" } : Jvm.MethodName) prog_6_method_10_code (3 : Nat) (Option.some Jvm.ClassFile.FieldType.int)).before args0 about1 = true := code_word (m := ⟨3, 2⟩) (meth := k3m2) (c := k3c2) (by decide +kernel) rfl rfl rfl (by decide +kernel)
set_option maxRecDepth 65536 in
theorem w_c5 : (Jvm.Cond.code ({ cls := "com/example/hereafter/hereafter/io/AsciiTextHashCodePinLaw", name := "ref", desc := "([BII)I" } : Jvm.MethodName) method_3_code (4 : Nat) (Option.some Jvm.ClassFile.FieldType.int)).before args0 about1 = true := code_word (m := ⟨1, 2⟩) (meth := k1m2) (c := k1c2) (by decide +kernel) rfl rfl rfl (by decide +kernel)
def codes1 : List Jvm.Cond := [Jvm.Cond.code x code maxLocals ret, Jvm.Cond.code ({ cls := "com/example/hereafter/hereafter/io/AsciiText", name := "<init>", desc := "([BII)V" } : Jvm.MethodName) prog_6_method_1_code (4 : Nat) (Option.none : Option Jvm.ClassFile.FieldType), Jvm.Cond.code ({ cls := "java/lang/Object", name := "<init>", desc := "()V" } : Jvm.MethodName) object_method_1_code (1 : Nat) (Option.none : Option Jvm.ClassFile.FieldType), Jvm.Cond.code ({ cls := "com/example/hereafter/hereafter/io/AsciiText", name := "set", desc := "([BII)V" } : Jvm.MethodName) prog_6_method_2_code (4 : Nat) (Option.none : Option Jvm.ClassFile.FieldType), Jvm.Cond.code ({ cls := "com/example/hereafter/hereafter/io/AsciiText", name := "hashCode", desc := "()I" } : Jvm.MethodName) prog_6_method_10_code (3 : Nat) (Option.some Jvm.ClassFile.FieldType.int), Jvm.Cond.code ({ cls := "com/example/hereafter/hereafter/io/AsciiTextHashCodePinLaw", name := "ref", desc := "([BII)I" } : Jvm.MethodName) method_3_code (4 : Nat) (Option.some Jvm.ClassFile.FieldType.int)]
set_option maxRecDepth 65536 in
theorem codes_eq : words1.filter isCode = codes1 := rfl
theorem w_codes : ∀ c ∈ words1.filter isCode, c.before args0 about1 = true := by
  rw [codes_eq]
  intro c hc
  simp only [codes1, List.mem_cons, List.not_mem_nil, or_false] at hc
  rcases hc with rfl | rfl | rfl | rfl | rfl | rfl
  · exact w_c0
  · exact w_c1
  · exact w_c2
  · exact w_c3
  · exact w_c4
  · exact w_c5
set_option maxRecDepth 65536 in
theorem w_t1 : (words1.take 24).all (fun c => isCode c || c.before args0 about1) = true := by decide +kernel
set_option maxRecDepth 65536 in
theorem w_t2 : (words1.drop 24).all (fun c => isCode c || c.before args0 about1) = true := by decide +kernel
theorem w_tables : (allAtoms (Jvm.Cond.code x code maxLocals ret :: tables_1)).before args0 about1 = true := by
  rw [allAtoms_all]
  show words1.all (fun c => c.before args0 about1) = true
  refine all_split ?_ w_codes
  rw [← List.take_append_drop 24 words1, List.all_append, w_t1, w_t2]
  rfl
set_option maxRecDepth 65536 in
theorem w_case : (Jvm.Cond.and given_1 narrow_1).before args0 about1 = true := by decide +kernel
theorem w_applies : (headSpec (Jvm.Cond.code x code maxLocals ret :: tables_1) room_1).applies x e0.platform about1 = true :=
  (Spec.applies_iff w_frames).mpr ⟨w_running, w_runnable, w_alone, w_named, w_hears, w_ripe, w_room, w_tables⟩
theorem atStart : AtStart classFile x code maxLocals ret World_1 tables_1 room_1 Calls_1 rest_1 Pre_1 launch0 p0 e0 about1 theMethod args0 below0 :=
  ⟨lists_1, trivial, launch0.admits_env _ _ _, launch0.least_env, fairChoices_fair.cas, fairChoices_fair.clock, w_frames, w_args, w_heap, w_applies, trivial, trivial, w_case⟩
end start1
theorem witness_1 : WitnessClaimed_1 := ⟨start1.p0, start1.e0, start1.about1, start1.theMethod, start1.args0, start1.below0, start1.atStart⟩
end Jvm.Pilot.@@N@@
