import JvmDerived
import JvmDerived.Pilot.@@N@@Statement
import JvmDerived.Pilot.@@N@@Code
set_option linter.unusedVariables false
set_option linter.unusedSimpArgs false
namespace Jvm.RoadKit
open Sem ClassFile Op Lib Jvm.Stand Jvm.Free Jvm.LawKit
section New
variable {p : Program} {l : Launch} {e : Env} {R : Room} {s : State} {m : MethodId} {args : Array Value} {below : List Frame} {meth : Method} {c : Code} {T : State} {locs : List Loc} {cells slots : Nat}
theorem retI (X : Stand p l e R s m args below meth c T locs cells slots) (hx : p.tables.exec = Jvm.exec) {pc : Nat} {Ls : Array Slot} {z : Int32} {rest : List Value} (hret : meth.sig.returnType = some .int) (hd : decode c.code pc = .ok (.ireturn, 1)) {fs : List Frame}
    (hl : ∀ (f : JFrame) (acts : List Action), f.method = m → f.locked = none → f.entered = [] → (doReturn e (T.setTop f) acts (some (.int z))).1 = T.setFrames fs) : Steps p.tables e below (T.setTop (mkF m pc Ls (.int z :: rest))) (T.setFrames fs) := by
  have hm' : T.vm.method? m = some meth := X.method'
  have hn : narrow .int (.int z) = .int z := rfl
  show Steps p.tables e below (T.setTop { method := m, pc := pc, locals := Ls, stack := _ :: rest, locked := none }) _
  jvm_step X.here [X.here.top, hx, hd, hm', hret, hn]
  first | (intro acts; rw [hl _ acts rfl rfl rfl]) | rw [hl _ _ rfl rfl rfl]
  exact Steps.refl _
theorem retA (X : Stand p l e R s m args below meth c T locs cells slots) (hx : p.tables.exec = Jvm.exec) {pc : Nat} {Ls : Array Slot} {a : Addr} {t : FieldType} {rest : List Value} (hret : meth.sig.returnType = some t) (ht : t.isReference = true) (hn : narrow t (.ref a) = .ref a) (hd : decode c.code pc = .ok (.areturn, 1)) {fs : List Frame}
    (hl : ∀ (f : JFrame) (acts : List Action), f.method = m → f.locked = none → f.entered = [] → (doReturn e (T.setTop f) acts (some (.ref a))).1 = T.setFrames fs) : Steps p.tables e below (T.setTop (mkF m pc Ls (.ref a :: rest))) (T.setFrames fs) :=
  retOut X hx hret hn (Or.inr (Or.inr (Or.inr (Or.inr ⟨rfl, ht, rfl⟩)))) hd hl
def Gd (tb : Tables) (e : Env) (below : List Frame) (P : State → Outcome → Prop) (A : State) : Prop := ∃ t o, Steps tb e below A t ∧ P t o
theorem Gd.out {tb : Tables} {P : State → Outcome → Prop} {A : State} (h : Gd tb e below P A) : ∃ t o, Steps tb e below A t ∧ P t o := h
theorem Gd.st {tb : Tables} {P : State → Outcome → Prop} {A B : State} (h : ∀ t, Steps tb e below B t → Steps tb e below A t) (k : Gd tb e below P B) : Gd tb e below P A := by
  obtain ⟨t, o, k1, k2⟩ := k; exact ⟨t, o, h t k1, k2⟩
theorem Gd.join {tb : Tables} {P : State → Outcome → Prop} {A B : State} (h : Gd tb e below P B → Gd tb e below P A) (k : Gd tb e below P B) : Gd tb e below P A := h k
theorem Gd.mk {tb : Tables} {P : State → Outcome → Prop} {A t : State} {o : Outcome} (h : Steps tb e below A t) (k : P t o) : Gd tb e below P A := ⟨t, o, h, k⟩
end New
end Jvm.RoadKit
namespace Jvm.Pilot.@@N@@
open Jvm Jvm.ClassFile Sem Op Lib Jvm.Free Jvm.Stand Jvm.LawKit Jvm.RoadKit Bundle Jvm.Pilot.@@N@@.Jvm.D
def own_ws (x : Int32) : Int32 := if x = (32 : Int32) ∨ (¬ x < (9 : Int32) ∧ ¬ (13 : Int32) < x) ∨ (¬ x < (28 : Int32) ∧ ¬ (31 : Int32) < x) then 1 else 0
def own_ref (x : Int32) : Int32 := if x = (9 : Int32) ∨ x = (10 : Int32) ∨ x = (11 : Int32) ∨ x = (12 : Int32) ∨ x = (13 : Int32) ∨ x = (28 : Int32) ∨ x = (29 : Int32) ∨ x = (30 : Int32) ∨ x = (31 : Int32) ∨ x = (32 : Int32) then 1 else 0
theorem own_law (x : Int32) : own_ws x = own_ref x := by
  unfold own_ws own_ref
  simp only [Int32.lt_iff_toInt_lt, ← Int32.toInt_inj, show (9 : Int32).toInt = 9 from rfl, show (10 : Int32).toInt = 10 from rfl, show (11 : Int32).toInt = 11 from rfl, show (12 : Int32).toInt = 12 from rfl, show (13 : Int32).toInt = 13 from rfl, show (28 : Int32).toInt = 28 from rfl, show (29 : Int32).toInt = 29 from rfl, show (30 : Int32).toInt = 30 from rfl, show (31 : Int32).toInt = 31 from rfl, show (32 : Int32).toInt = 32 from rfl]
  split <;> split <;> first | rfl | (exfalso; omega)
theorem d1_0 : decode prog_22_method_7_code 0 = .ok (.iload_n 0, 1) := by decide +kernel
theorem d1_1 : decode prog_22_method_7_code 1 = .ok (.bipush 32, 2) := by decide +kernel
theorem d1_3 : decode prog_22_method_7_code 3 = .ok (.if_icmp .eq 27, 3) := by decide +kernel
theorem d1_6 : decode prog_22_method_7_code 6 = .ok (.iload_n 0, 1) := by decide +kernel
theorem d1_7 : decode prog_22_method_7_code 7 = .ok (.bipush 9, 2) := by decide +kernel
theorem d1_9 : decode prog_22_method_7_code 9 = .ok (.if_icmp .lt 9, 3) := by decide +kernel
theorem d1_12 : decode prog_22_method_7_code 12 = .ok (.iload_n 0, 1) := by decide +kernel
theorem d1_13 : decode prog_22_method_7_code 13 = .ok (.bipush 13, 2) := by decide +kernel
theorem d1_15 : decode prog_22_method_7_code 15 = .ok (.if_icmp .le 15, 3) := by decide +kernel
theorem d1_18 : decode prog_22_method_7_code 18 = .ok (.iload_n 0, 1) := by decide +kernel
theorem d1_19 : decode prog_22_method_7_code 19 = .ok (.bipush 28, 2) := by decide +kernel
theorem d1_21 : decode prog_22_method_7_code 21 = .ok (.if_icmp .lt 13, 3) := by decide +kernel
theorem d1_24 : decode prog_22_method_7_code 24 = .ok (.iload_n 0, 1) := by decide +kernel
theorem d1_25 : decode prog_22_method_7_code 25 = .ok (.bipush 31, 2) := by decide +kernel
theorem d1_27 : decode prog_22_method_7_code 27 = .ok (.if_icmp .gt 7, 3) := by decide +kernel
theorem d1_30 : decode prog_22_method_7_code 30 = .ok (.iconst 1, 1) := by decide +kernel
theorem d1_31 : decode prog_22_method_7_code 31 = .ok (.goto 4, 3) := by decide +kernel
theorem d1_34 : decode prog_22_method_7_code 34 = .ok (.iconst 0, 1) := by decide +kernel
theorem d1_35 : decode prog_22_method_7_code 35 = .ok (.ireturn, 1) := by decide +kernel
theorem pn_TextFile : plainName "com/example/linearis/linearis/io/TextFile" = true := by first | (simp [plainName, overriddenIn]; done) | decide +kernel
theorem ef_1 (m : MethodId) (x0 : Int32) : entryFrame m #[(.int x0)] 1 = mkF m 0 #[.val (.int x0)] [] := by first | (simp [entryFrame, mkF, argsToLocals, Value.category]; done) | rfl
def Q1 (Z : State) (p1 : Int32) (h0 : Heap) (n0 : Nat) (v : Option Value) (h : Heap) (L : List Loc) : Prop := v = some (.int (own_ws p1)) ∧ Fr n0 L ∧ h = h0
set_option maxRecDepth 65536 in
set_option maxHeartbeats 40000000 in
theorem rm1 (l : Launch) (Z : State) (a0 : Array Value) (hw : ∀ d ∈ tables_1, d.before a0 Z = true) (ws : List Jvm.Cond) (p1 : Int32) (h0 : Heap) (n0 : Nat) (Z0 : n0 ≤ h0.size) :
    MetFree l (⟨"com/example/linearis/linearis/io/TextFile", "isAsciiWhitespace", "(I)Z"⟩ : MethodName) (head1 (Jvm.Cond.code (⟨"com/example/linearis/linearis/io/TextFile", "isAsciiWhitespace", "(I)Z"⟩ : MethodName) prog_22_method_7_code 1 (some .boolean) :: ws) ({ frames := 0, cells := 0, slots := 0, locals := 0 } : Room)) (fun a U => a = #[(.int p1)] ∧ Z.Warmed39 U.vm ∧ U.heap = h0) (fun _ _ _ _ _ => True) (fun _ U o U' => ∃ v L, o = .returned v ∧ Q1 Z p1 h0 n0 v U'.heap L ∧ FrameEnd U o U' L ({ frames := 0, cells := 0, slots := 0, locals := 0 } : Room).cells ({ frames := 0, cells := 0, slots := 0, locals := 0 } : Room).slots) := by
  refine MetFree.of_bodySF (plainFor_of_name pn_TextFile) hisR ?_
  intro p e s m args below meth c s₁ Bd hml0 hP hK
  obtain ⟨rfl, hZ, hh⟩ := hP
  have hx := Bd.exec
  have hby := Bd.bytes
  have hml : c.maxLocals = 1 := hml0
  have hown : s.vm.findClass "com/example/linearis/linearis/io/TextFile" = some m.cls := findClass_of_methodNamed Bd.named
  have hnm := (name_of_methodNamed Bd.named Bd.method).1
  have X0 : Stand p l e ({ frames := 0, cells := 0, slots := 0, locals := 0 } : Room) s m #[(.int p1)] below meth c s₁ [] 0 0 := Stand.of_body Bd
  have e0 : s₁.heap = h0 := by rw [← hh, Bd.state]; rfl
  have N0 := Fr.nil n0
  refine Gd.out (Gd.st (fun t k => castTop (ef_1 m p1) k) ?_)
  show Gd p.tables e below _ (s₁.setTop (mkF m 0 #[.val (.int p1)] []))
  refine Gd.st (fun _ k => XS.iloadN X0.here hx rfl (hb hby d1_0) rfl k) ?_
  show Gd p.tables e below _ (s₁.setTop (mkF m 1 #[.val (.int p1)] [(.int p1)]))
  refine Gd.st (fun _ k => XS.bipush X0.here hx rfl (hb hby d1_1) k) ?_
  show Gd p.tables e below _ (s₁.setTop (mkF m 3 #[.val (.int p1)] [(.int (32 : Int32)), (.int p1)]))
  by_cases hc3 : p1 = (32 : Int32)
  · skip
    refine Gd.st (fun _ k => XS.icmpYes X0.here hx rfl (pc0 := 3) (pc' := 30) rfl (hb hby d1_3) rfl (teq hc3).1 (by decide) (by decide) k) ?_
    show Gd p.tables e below _ (s₁.setTop (mkF m 30 #[.val (.int p1)] []))
    refine Gd.st (fun _ k => XS.iconst X0.here hx rfl (hb hby d1_30) k) ?_
    show Gd p.tables e below _ (s₁.setTop (mkF m 31 #[.val (.int p1)] [(.int (1 : Int32))]))
    refine Gd.st (fun _ k => XS.goto X0.here hx rfl (pc0 := 31) (pc' := 35) rfl (hb hby d1_31) (by decide) (by decide) k) ?_
    show Gd p.tables e below _ (s₁.setTop (mkF m 35 #[.val (.int p1)] [(.int (1 : Int32))]))
    obtain ⟨fs, hr, hrun, hended, hW, hsame⟩ := X0.leave (v := some (.int (1 : Int32))) (fun h => by rw [Bd.returns] at h; cases h) Bd.notSynchronized
    refine Gd.mk (o := .returned (some (.int (1 : Int32)))) (retN X0 hx (t := .boolean) Bd.returns (by simp) (hb hby d1_35) hr) ⟨hrun, hended, _, _, rfl, ?_, ⟨_, rfl⟩, hW, hsame.mono (by decide) (by decide)⟩
    show Q1 Z p1 h0 n0 _ s₁.heap _
    rw [e0]
    exact ⟨(by first | (simp only [own_ws, eq_true hc3, not_true_eq_false, not_false_eq_true, and_true, true_and, and_false, false_and, or_true, true_or, or_false, false_or, if_true, if_false]; done) | simp [own_ws, eq_true hc3]), N0, rfl⟩
  · skip
    refine Gd.st (fun _ k => XS.icmpNo X0.here hx rfl (hb hby d1_3) rfl (feq hc3).1 k) ?_
    show Gd p.tables e below _ (s₁.setTop (mkF m 6 #[.val (.int p1)] []))
    refine Gd.st (fun _ k => XS.iloadN X0.here hx rfl (hb hby d1_6) rfl k) ?_
    show Gd p.tables e below _ (s₁.setTop (mkF m 7 #[.val (.int p1)] [(.int p1)]))
    refine Gd.st (fun _ k => XS.bipush X0.here hx rfl (hb hby d1_7) k) ?_
    show Gd p.tables e below _ (s₁.setTop (mkF m 9 #[.val (.int p1)] [(.int (9 : Int32)), (.int p1)]))
    by_cases hc9 : p1 < (9 : Int32)
    · skip
      refine Gd.st (fun _ k => XS.icmpYes X0.here hx rfl (pc0 := 9) (pc' := 18) rfl (hb hby d1_9) rfl (tlt hc9).1 (by decide) (by decide) k) ?_
      show Gd p.tables e below _ (s₁.setTop (mkF m 18 #[.val (.int p1)] []))
      refine Gd.st (fun _ k => XS.iloadN X0.here hx rfl (hb hby d1_18) rfl k) ?_
      show Gd p.tables e below _ (s₁.setTop (mkF m 19 #[.val (.int p1)] [(.int p1)]))
      refine Gd.st (fun _ k => XS.bipush X0.here hx rfl (hb hby d1_19) k) ?_
      show Gd p.tables e below _ (s₁.setTop (mkF m 21 #[.val (.int p1)] [(.int (28 : Int32)), (.int p1)]))
      by_cases hc21 : p1 < (28 : Int32)
      · skip
        refine Gd.st (fun _ k => XS.icmpYes X0.here hx rfl (pc0 := 21) (pc' := 34) rfl (hb hby d1_21) rfl (tlt hc21).1 (by decide) (by decide) k) ?_
        show Gd p.tables e below _ (s₁.setTop (mkF m 34 #[.val (.int p1)] []))
        refine Gd.st (fun _ k => XS.iconst X0.here hx rfl (hb hby d1_34) k) ?_
        show Gd p.tables e below _ (s₁.setTop (mkF m 35 #[.val (.int p1)] [(.int (0 : Int32))]))
        obtain ⟨fs, hr, hrun, hended, hW, hsame⟩ := X0.leave (v := some (.int (0 : Int32))) (fun h => by rw [Bd.returns] at h; cases h) Bd.notSynchronized
        refine Gd.mk (o := .returned (some (.int (0 : Int32)))) (retN X0 hx (t := .boolean) Bd.returns (by simp) (hb hby d1_35) hr) ⟨hrun, hended, _, _, rfl, ?_, ⟨_, rfl⟩, hW, hsame.mono (by decide) (by decide)⟩
        show Q1 Z p1 h0 n0 _ s₁.heap _
        rw [e0]
        exact ⟨(by first | (simp only [own_ws, eq_false hc3, eq_true hc9, eq_true hc21, not_true_eq_false, not_false_eq_true, and_true, true_and, and_false, false_and, or_true, true_or, or_false, false_or, if_true, if_false]; done) | simp [own_ws, eq_false hc3, eq_true hc9, eq_true hc21]), N0, rfl⟩
      · skip
        refine Gd.st (fun _ k => XS.icmpNo X0.here hx rfl (hb hby d1_21) rfl (flt hc21).1 k) ?_
        show Gd p.tables e below _ (s₁.setTop (mkF m 24 #[.val (.int p1)] []))
        refine Gd.st (fun _ k => XS.iloadN X0.here hx rfl (hb hby d1_24) rfl k) ?_
        show Gd p.tables e below _ (s₁.setTop (mkF m 25 #[.val (.int p1)] [(.int p1)]))
        refine Gd.st (fun _ k => XS.bipush X0.here hx rfl (hb hby d1_25) k) ?_
        show Gd p.tables e below _ (s₁.setTop (mkF m 27 #[.val (.int p1)] [(.int (31 : Int32)), (.int p1)]))
        by_cases hc27 : (31 : Int32) < p1
        · skip
          refine Gd.st (fun _ k => XS.icmpYes X0.here hx rfl (pc0 := 27) (pc' := 34) rfl (hb hby d1_27) rfl (tlt hc27).2.2.1 (by decide) (by decide) k) ?_
          show Gd p.tables e below _ (s₁.setTop (mkF m 34 #[.val (.int p1)] []))
          refine Gd.st (fun _ k => XS.iconst X0.here hx rfl (hb hby d1_34) k) ?_
          show Gd p.tables e below _ (s₁.setTop (mkF m 35 #[.val (.int p1)] [(.int (0 : Int32))]))
          obtain ⟨fs, hr, hrun, hended, hW, hsame⟩ := X0.leave (v := some (.int (0 : Int32))) (fun h => by rw [Bd.returns] at h; cases h) Bd.notSynchronized
          refine Gd.mk (o := .returned (some (.int (0 : Int32)))) (retN X0 hx (t := .boolean) Bd.returns (by simp) (hb hby d1_35) hr) ⟨hrun, hended, _, _, rfl, ?_, ⟨_, rfl⟩, hW, hsame.mono (by decide) (by decide)⟩
          show Q1 Z p1 h0 n0 _ s₁.heap _
          rw [e0]
          exact ⟨(by first | (simp only [own_ws, eq_false hc3, eq_true hc9, eq_false hc21, eq_true hc27, not_true_eq_false, not_false_eq_true, and_true, true_and, and_false, false_and, or_true, true_or, or_false, false_or, if_true, if_false]; done) | simp [own_ws, eq_false hc3, eq_true hc9, eq_false hc21, eq_true hc27]), N0, rfl⟩
        · skip
          refine Gd.st (fun _ k => XS.icmpNo X0.here hx rfl (hb hby d1_27) rfl (flt hc27).2.2.1 k) ?_
          show Gd p.tables e below _ (s₁.setTop (mkF m 30 #[.val (.int p1)] []))
          refine Gd.st (fun _ k => XS.iconst X0.here hx rfl (hb hby d1_30) k) ?_
          show Gd p.tables e below _ (s₁.setTop (mkF m 31 #[.val (.int p1)] [(.int (1 : Int32))]))
          refine Gd.st (fun _ k => XS.goto X0.here hx rfl (pc0 := 31) (pc' := 35) rfl (hb hby d1_31) (by decide) (by decide) k) ?_
          show Gd p.tables e below _ (s₁.setTop (mkF m 35 #[.val (.int p1)] [(.int (1 : Int32))]))
          obtain ⟨fs, hr, hrun, hended, hW, hsame⟩ := X0.leave (v := some (.int (1 : Int32))) (fun h => by rw [Bd.returns] at h; cases h) Bd.notSynchronized
          refine Gd.mk (o := .returned (some (.int (1 : Int32)))) (retN X0 hx (t := .boolean) Bd.returns (by simp) (hb hby d1_35) hr) ⟨hrun, hended, _, _, rfl, ?_, ⟨_, rfl⟩, hW, hsame.mono (by decide) (by decide)⟩
          show Q1 Z p1 h0 n0 _ s₁.heap _
          rw [e0]
          exact ⟨(by first | (simp only [own_ws, eq_false hc3, eq_true hc9, eq_false hc21, eq_false hc27, not_true_eq_false, not_false_eq_true, and_true, true_and, and_false, false_and, or_true, true_or, or_false, false_or, if_true, if_false]; done) | simp [own_ws, eq_false hc3, eq_true hc9, eq_false hc21, eq_false hc27]), N0, rfl⟩
    · skip
      refine Gd.st (fun _ k => XS.icmpNo X0.here hx rfl (hb hby d1_9) rfl (flt hc9).1 k) ?_
      show Gd p.tables e below _ (s₁.setTop (mkF m 12 #[.val (.int p1)] []))
      refine Gd.st (fun _ k => XS.iloadN X0.here hx rfl (hb hby d1_12) rfl k) ?_
      show Gd p.tables e below _ (s₁.setTop (mkF m 13 #[.val (.int p1)] [(.int p1)]))
      refine Gd.st (fun _ k => XS.bipush X0.here hx rfl (hb hby d1_13) k) ?_
      show Gd p.tables e below _ (s₁.setTop (mkF m 15 #[.val (.int p1)] [(.int (13 : Int32)), (.int p1)]))
      by_cases hc15 : (13 : Int32) < p1
      · skip
        refine Gd.st (fun _ k => XS.icmpNo X0.here hx rfl (hb hby d1_15) rfl (tlt hc15).2.2.2 k) ?_
        show Gd p.tables e below _ (s₁.setTop (mkF m 18 #[.val (.int p1)] []))
        refine Gd.st (fun _ k => XS.iloadN X0.here hx rfl (hb hby d1_18) rfl k) ?_
        show Gd p.tables e below _ (s₁.setTop (mkF m 19 #[.val (.int p1)] [(.int p1)]))
        refine Gd.st (fun _ k => XS.bipush X0.here hx rfl (hb hby d1_19) k) ?_
        show Gd p.tables e below _ (s₁.setTop (mkF m 21 #[.val (.int p1)] [(.int (28 : Int32)), (.int p1)]))
        by_cases hc21 : p1 < (28 : Int32)
        · skip
          refine Gd.st (fun _ k => XS.icmpYes X0.here hx rfl (pc0 := 21) (pc' := 34) rfl (hb hby d1_21) rfl (tlt hc21).1 (by decide) (by decide) k) ?_
          show Gd p.tables e below _ (s₁.setTop (mkF m 34 #[.val (.int p1)] []))
          refine Gd.st (fun _ k => XS.iconst X0.here hx rfl (hb hby d1_34) k) ?_
          show Gd p.tables e below _ (s₁.setTop (mkF m 35 #[.val (.int p1)] [(.int (0 : Int32))]))
          obtain ⟨fs, hr, hrun, hended, hW, hsame⟩ := X0.leave (v := some (.int (0 : Int32))) (fun h => by rw [Bd.returns] at h; cases h) Bd.notSynchronized
          refine Gd.mk (o := .returned (some (.int (0 : Int32)))) (retN X0 hx (t := .boolean) Bd.returns (by simp) (hb hby d1_35) hr) ⟨hrun, hended, _, _, rfl, ?_, ⟨_, rfl⟩, hW, hsame.mono (by decide) (by decide)⟩
          show Q1 Z p1 h0 n0 _ s₁.heap _
          rw [e0]
          exact ⟨(by first | (simp only [own_ws, eq_false hc3, eq_false hc9, eq_true hc15, eq_true hc21, not_true_eq_false, not_false_eq_true, and_true, true_and, and_false, false_and, or_true, true_or, or_false, false_or, if_true, if_false]; done) | simp [own_ws, eq_false hc3, eq_false hc9, eq_true hc15, eq_true hc21]), N0, rfl⟩
        · skip
          refine Gd.st (fun _ k => XS.icmpNo X0.here hx rfl (hb hby d1_21) rfl (flt hc21).1 k) ?_
          show Gd p.tables e below _ (s₁.setTop (mkF m 24 #[.val (.int p1)] []))
          refine Gd.st (fun _ k => XS.iloadN X0.here hx rfl (hb hby d1_24) rfl k) ?_
          show Gd p.tables e below _ (s₁.setTop (mkF m 25 #[.val (.int p1)] [(.int p1)]))
          refine Gd.st (fun _ k => XS.bipush X0.here hx rfl (hb hby d1_25) k) ?_
          show Gd p.tables e below _ (s₁.setTop (mkF m 27 #[.val (.int p1)] [(.int (31 : Int32)), (.int p1)]))
          by_cases hc27 : (31 : Int32) < p1
          · skip
            refine Gd.st (fun _ k => XS.icmpYes X0.here hx rfl (pc0 := 27) (pc' := 34) rfl (hb hby d1_27) rfl (tlt hc27).2.2.1 (by decide) (by decide) k) ?_
            show Gd p.tables e below _ (s₁.setTop (mkF m 34 #[.val (.int p1)] []))
            refine Gd.st (fun _ k => XS.iconst X0.here hx rfl (hb hby d1_34) k) ?_
            show Gd p.tables e below _ (s₁.setTop (mkF m 35 #[.val (.int p1)] [(.int (0 : Int32))]))
            obtain ⟨fs, hr, hrun, hended, hW, hsame⟩ := X0.leave (v := some (.int (0 : Int32))) (fun h => by rw [Bd.returns] at h; cases h) Bd.notSynchronized
            refine Gd.mk (o := .returned (some (.int (0 : Int32)))) (retN X0 hx (t := .boolean) Bd.returns (by simp) (hb hby d1_35) hr) ⟨hrun, hended, _, _, rfl, ?_, ⟨_, rfl⟩, hW, hsame.mono (by decide) (by decide)⟩
            show Q1 Z p1 h0 n0 _ s₁.heap _
            rw [e0]
            exact ⟨(by first | (simp only [own_ws, eq_false hc3, eq_false hc9, eq_true hc15, eq_false hc21, eq_true hc27, not_true_eq_false, not_false_eq_true, and_true, true_and, and_false, false_and, or_true, true_or, or_false, false_or, if_true, if_false]; done) | simp [own_ws, eq_false hc3, eq_false hc9, eq_true hc15, eq_false hc21, eq_true hc27]), N0, rfl⟩
          · skip
            refine Gd.st (fun _ k => XS.icmpNo X0.here hx rfl (hb hby d1_27) rfl (flt hc27).2.2.1 k) ?_
            show Gd p.tables e below _ (s₁.setTop (mkF m 30 #[.val (.int p1)] []))
            refine Gd.st (fun _ k => XS.iconst X0.here hx rfl (hb hby d1_30) k) ?_
            show Gd p.tables e below _ (s₁.setTop (mkF m 31 #[.val (.int p1)] [(.int (1 : Int32))]))
            refine Gd.st (fun _ k => XS.goto X0.here hx rfl (pc0 := 31) (pc' := 35) rfl (hb hby d1_31) (by decide) (by decide) k) ?_
            show Gd p.tables e below _ (s₁.setTop (mkF m 35 #[.val (.int p1)] [(.int (1 : Int32))]))
            obtain ⟨fs, hr, hrun, hended, hW, hsame⟩ := X0.leave (v := some (.int (1 : Int32))) (fun h => by rw [Bd.returns] at h; cases h) Bd.notSynchronized
            refine Gd.mk (o := .returned (some (.int (1 : Int32)))) (retN X0 hx (t := .boolean) Bd.returns (by simp) (hb hby d1_35) hr) ⟨hrun, hended, _, _, rfl, ?_, ⟨_, rfl⟩, hW, hsame.mono (by decide) (by decide)⟩
            show Q1 Z p1 h0 n0 _ s₁.heap _
            rw [e0]
            exact ⟨(by first | (simp only [own_ws, eq_false hc3, eq_false hc9, eq_true hc15, eq_false hc21, eq_false hc27, not_true_eq_false, not_false_eq_true, and_true, true_and, and_false, false_and, or_true, true_or, or_false, false_or, if_true, if_false]; done) | simp [own_ws, eq_false hc3, eq_false hc9, eq_true hc15, eq_false hc21, eq_false hc27]), N0, rfl⟩
      · skip
        refine Gd.st (fun _ k => XS.icmpYes X0.here hx rfl (pc0 := 15) (pc' := 30) rfl (hb hby d1_15) rfl (flt hc15).2.2.2 (by decide) (by decide) k) ?_
        show Gd p.tables e below _ (s₁.setTop (mkF m 30 #[.val (.int p1)] []))
        refine Gd.st (fun _ k => XS.iconst X0.here hx rfl (hb hby d1_30) k) ?_
        show Gd p.tables e below _ (s₁.setTop (mkF m 31 #[.val (.int p1)] [(.int (1 : Int32))]))
        refine Gd.st (fun _ k => XS.goto X0.here hx rfl (pc0 := 31) (pc' := 35) rfl (hb hby d1_31) (by decide) (by decide) k) ?_
        show Gd p.tables e below _ (s₁.setTop (mkF m 35 #[.val (.int p1)] [(.int (1 : Int32))]))
        obtain ⟨fs, hr, hrun, hended, hW, hsame⟩ := X0.leave (v := some (.int (1 : Int32))) (fun h => by rw [Bd.returns] at h; cases h) Bd.notSynchronized
        refine Gd.mk (o := .returned (some (.int (1 : Int32)))) (retN X0 hx (t := .boolean) Bd.returns (by simp) (hb hby d1_35) hr) ⟨hrun, hended, _, _, rfl, ?_, ⟨_, rfl⟩, hW, hsame.mono (by decide) (by decide)⟩
        show Q1 Z p1 h0 n0 _ s₁.heap _
        rw [e0]
        exact ⟨(by first | (simp only [own_ws, eq_false hc3, eq_false hc9, eq_false hc15, not_true_eq_false, not_false_eq_true, and_true, true_and, and_false, false_and, or_true, true_or, or_false, false_or, if_true, if_false]; done) | simp [own_ws, eq_false hc3, eq_false hc9, eq_false hc15]), N0, rfl⟩
theorem d2_0 : decode method_2_code 0 = .ok (.iload_n 0, 1) := by decide +kernel
theorem d2_1 : decode method_2_code 1 = .ok (.bipush 9, 2) := by decide +kernel
theorem d2_3 : decode method_2_code 3 = .ok (.if_icmp .eq 57, 3) := by decide +kernel
theorem d2_6 : decode method_2_code 6 = .ok (.iload_n 0, 1) := by decide +kernel
theorem d2_7 : decode method_2_code 7 = .ok (.bipush 10, 2) := by decide +kernel
theorem d2_9 : decode method_2_code 9 = .ok (.if_icmp .eq 51, 3) := by decide +kernel
theorem d2_12 : decode method_2_code 12 = .ok (.iload_n 0, 1) := by decide +kernel
theorem d2_13 : decode method_2_code 13 = .ok (.bipush 11, 2) := by decide +kernel
theorem d2_15 : decode method_2_code 15 = .ok (.if_icmp .eq 45, 3) := by decide +kernel
theorem d2_18 : decode method_2_code 18 = .ok (.iload_n 0, 1) := by decide +kernel
theorem d2_19 : decode method_2_code 19 = .ok (.bipush 12, 2) := by decide +kernel
theorem d2_21 : decode method_2_code 21 = .ok (.if_icmp .eq 39, 3) := by decide +kernel
theorem d2_24 : decode method_2_code 24 = .ok (.iload_n 0, 1) := by decide +kernel
theorem d2_25 : decode method_2_code 25 = .ok (.bipush 13, 2) := by decide +kernel
theorem d2_27 : decode method_2_code 27 = .ok (.if_icmp .eq 33, 3) := by decide +kernel
theorem d2_30 : decode method_2_code 30 = .ok (.iload_n 0, 1) := by decide +kernel
theorem d2_31 : decode method_2_code 31 = .ok (.bipush 28, 2) := by decide +kernel
theorem d2_33 : decode method_2_code 33 = .ok (.if_icmp .eq 27, 3) := by decide +kernel
theorem d2_36 : decode method_2_code 36 = .ok (.iload_n 0, 1) := by decide +kernel
theorem d2_37 : decode method_2_code 37 = .ok (.bipush 29, 2) := by decide +kernel
theorem d2_39 : decode method_2_code 39 = .ok (.if_icmp .eq 21, 3) := by decide +kernel
theorem d2_42 : decode method_2_code 42 = .ok (.iload_n 0, 1) := by decide +kernel
theorem d2_43 : decode method_2_code 43 = .ok (.bipush 30, 2) := by decide +kernel
theorem d2_45 : decode method_2_code 45 = .ok (.if_icmp .eq 15, 3) := by decide +kernel
theorem d2_48 : decode method_2_code 48 = .ok (.iload_n 0, 1) := by decide +kernel
theorem d2_49 : decode method_2_code 49 = .ok (.bipush 31, 2) := by decide +kernel
theorem d2_51 : decode method_2_code 51 = .ok (.if_icmp .eq 9, 3) := by decide +kernel
theorem d2_54 : decode method_2_code 54 = .ok (.iload_n 0, 1) := by decide +kernel
theorem d2_55 : decode method_2_code 55 = .ok (.bipush 32, 2) := by decide +kernel
theorem d2_57 : decode method_2_code 57 = .ok (.if_icmp .ne 7, 3) := by decide +kernel
theorem d2_60 : decode method_2_code 60 = .ok (.iconst 1, 1) := by decide +kernel
theorem d2_61 : decode method_2_code 61 = .ok (.goto 4, 3) := by decide +kernel
theorem d2_64 : decode method_2_code 64 = .ok (.iconst 0, 1) := by decide +kernel
theorem d2_65 : decode method_2_code 65 = .ok (.ireturn, 1) := by decide +kernel
theorem pn_TextFileIsAsciiWhitespacePinLaw : plainName "com/example/linearis/linearis/io/TextFileIsAsciiWhitespacePinLaw" = true := by first | (simp [plainName, overriddenIn]; done) | decide +kernel
theorem ef_2 (m : MethodId) (x0 : Int32) : entryFrame m #[(.int x0)] 1 = mkF m 0 #[.val (.int x0)] [] := by first | (simp [entryFrame, mkF, argsToLocals, Value.category]; done) | rfl
def Q2 (Z : State) (p1 : Int32) (h0 : Heap) (n0 : Nat) (v : Option Value) (h : Heap) (L : List Loc) : Prop := v = some (.int (own_ref p1)) ∧ Fr n0 L ∧ h = h0
set_option maxRecDepth 65536 in
set_option maxHeartbeats 40000000 in
theorem rm2 (l : Launch) (Z : State) (a0 : Array Value) (hw : ∀ d ∈ tables_1, d.before a0 Z = true) (ws : List Jvm.Cond) (p1 : Int32) (h0 : Heap) (n0 : Nat) (Z0 : n0 ≤ h0.size) :
    MetFree l (⟨"com/example/linearis/linearis/io/TextFileIsAsciiWhitespacePinLaw", "ref", "(I)Z"⟩ : MethodName) (head1 (Jvm.Cond.code (⟨"com/example/linearis/linearis/io/TextFileIsAsciiWhitespacePinLaw", "ref", "(I)Z"⟩ : MethodName) method_2_code 1 (some .boolean) :: ws) ({ frames := 0, cells := 0, slots := 0, locals := 0 } : Room)) (fun a U => a = #[(.int p1)] ∧ Z.Warmed39 U.vm ∧ U.heap = h0) (fun _ _ _ _ _ => True) (fun _ U o U' => ∃ v L, o = .returned v ∧ Q2 Z p1 h0 n0 v U'.heap L ∧ FrameEnd U o U' L ({ frames := 0, cells := 0, slots := 0, locals := 0 } : Room).cells ({ frames := 0, cells := 0, slots := 0, locals := 0 } : Room).slots) := by
  refine MetFree.of_bodySF (plainFor_of_name pn_TextFileIsAsciiWhitespacePinLaw) hisR ?_
  intro p e s m args below meth c s₁ Bd hml0 hP hK
  obtain ⟨rfl, hZ, hh⟩ := hP
  have hx := Bd.exec
  have hby := Bd.bytes
  have hml : c.maxLocals = 1 := hml0
  have hown : s.vm.findClass "com/example/linearis/linearis/io/TextFileIsAsciiWhitespacePinLaw" = some m.cls := findClass_of_methodNamed Bd.named
  have hnm := (name_of_methodNamed Bd.named Bd.method).1
  have X0 : Stand p l e ({ frames := 0, cells := 0, slots := 0, locals := 0 } : Room) s m #[(.int p1)] below meth c s₁ [] 0 0 := Stand.of_body Bd
  have e0 : s₁.heap = h0 := by rw [← hh, Bd.state]; rfl
  have N0 := Fr.nil n0
  refine Gd.out (Gd.st (fun t k => castTop (ef_2 m p1) k) ?_)
  show Gd p.tables e below _ (s₁.setTop (mkF m 0 #[.val (.int p1)] []))
  refine Gd.st (fun _ k => XS.iloadN X0.here hx rfl (hb hby d2_0) rfl k) ?_
  show Gd p.tables e below _ (s₁.setTop (mkF m 1 #[.val (.int p1)] [(.int p1)]))
  refine Gd.st (fun _ k => XS.bipush X0.here hx rfl (hb hby d2_1) k) ?_
  show Gd p.tables e below _ (s₁.setTop (mkF m 3 #[.val (.int p1)] [(.int (9 : Int32)), (.int p1)]))
  by_cases hc3 : p1 = (9 : Int32)
  · skip
    refine Gd.st (fun _ k => XS.icmpYes X0.here hx rfl (pc0 := 3) (pc' := 60) rfl (hb hby d2_3) rfl (teq hc3).1 (by decide) (by decide) k) ?_
    show Gd p.tables e below _ (s₁.setTop (mkF m 60 #[.val (.int p1)] []))
    refine Gd.st (fun _ k => XS.iconst X0.here hx rfl (hb hby d2_60) k) ?_
    show Gd p.tables e below _ (s₁.setTop (mkF m 61 #[.val (.int p1)] [(.int (1 : Int32))]))
    refine Gd.st (fun _ k => XS.goto X0.here hx rfl (pc0 := 61) (pc' := 65) rfl (hb hby d2_61) (by decide) (by decide) k) ?_
    show Gd p.tables e below _ (s₁.setTop (mkF m 65 #[.val (.int p1)] [(.int (1 : Int32))]))
    obtain ⟨fs, hr, hrun, hended, hW, hsame⟩ := X0.leave (v := some (.int (1 : Int32))) (fun h => by rw [Bd.returns] at h; cases h) Bd.notSynchronized
    refine Gd.mk (o := .returned (some (.int (1 : Int32)))) (retN X0 hx (t := .boolean) Bd.returns (by simp) (hb hby d2_65) hr) ⟨hrun, hended, _, _, rfl, ?_, ⟨_, rfl⟩, hW, hsame.mono (by decide) (by decide)⟩
    show Q2 Z p1 h0 n0 _ s₁.heap _
    rw [e0]
    exact ⟨(by first | (simp only [own_ref, eq_true hc3, not_true_eq_false, not_false_eq_true, and_true, true_and, and_false, false_and, or_true, true_or, or_false, false_or, if_true, if_false]; done) | simp [own_ref, eq_true hc3]), N0, rfl⟩
  · skip
    refine Gd.st (fun _ k => XS.icmpNo X0.here hx rfl (hb hby d2_3) rfl (feq hc3).1 k) ?_
    show Gd p.tables e below _ (s₁.setTop (mkF m 6 #[.val (.int p1)] []))
    refine Gd.st (fun _ k => XS.iloadN X0.here hx rfl (hb hby d2_6) rfl k) ?_
    show Gd p.tables e below _ (s₁.setTop (mkF m 7 #[.val (.int p1)] [(.int p1)]))
    refine Gd.st (fun _ k => XS.bipush X0.here hx rfl (hb hby d2_7) k) ?_
    show Gd p.tables e below _ (s₁.setTop (mkF m 9 #[.val (.int p1)] [(.int (10 : Int32)), (.int p1)]))
    by_cases hc9 : p1 = (10 : Int32)
    · skip
      refine Gd.st (fun _ k => XS.icmpYes X0.here hx rfl (pc0 := 9) (pc' := 60) rfl (hb hby d2_9) rfl (teq hc9).1 (by decide) (by decide) k) ?_
      show Gd p.tables e below _ (s₁.setTop (mkF m 60 #[.val (.int p1)] []))
      refine Gd.st (fun _ k => XS.iconst X0.here hx rfl (hb hby d2_60) k) ?_
      show Gd p.tables e below _ (s₁.setTop (mkF m 61 #[.val (.int p1)] [(.int (1 : Int32))]))
      refine Gd.st (fun _ k => XS.goto X0.here hx rfl (pc0 := 61) (pc' := 65) rfl (hb hby d2_61) (by decide) (by decide) k) ?_
      show Gd p.tables e below _ (s₁.setTop (mkF m 65 #[.val (.int p1)] [(.int (1 : Int32))]))
      obtain ⟨fs, hr, hrun, hended, hW, hsame⟩ := X0.leave (v := some (.int (1 : Int32))) (fun h => by rw [Bd.returns] at h; cases h) Bd.notSynchronized
      refine Gd.mk (o := .returned (some (.int (1 : Int32)))) (retN X0 hx (t := .boolean) Bd.returns (by simp) (hb hby d2_65) hr) ⟨hrun, hended, _, _, rfl, ?_, ⟨_, rfl⟩, hW, hsame.mono (by decide) (by decide)⟩
      show Q2 Z p1 h0 n0 _ s₁.heap _
      rw [e0]
      exact ⟨(by first | (simp only [own_ref, eq_false hc3, eq_true hc9, not_true_eq_false, not_false_eq_true, and_true, true_and, and_false, false_and, or_true, true_or, or_false, false_or, if_true, if_false]; done) | simp [own_ref, eq_false hc3, eq_true hc9]), N0, rfl⟩
    · skip
      refine Gd.st (fun _ k => XS.icmpNo X0.here hx rfl (hb hby d2_9) rfl (feq hc9).1 k) ?_
      show Gd p.tables e below _ (s₁.setTop (mkF m 12 #[.val (.int p1)] []))
      refine Gd.st (fun _ k => XS.iloadN X0.here hx rfl (hb hby d2_12) rfl k) ?_
      show Gd p.tables e below _ (s₁.setTop (mkF m 13 #[.val (.int p1)] [(.int p1)]))
      refine Gd.st (fun _ k => XS.bipush X0.here hx rfl (hb hby d2_13) k) ?_
      show Gd p.tables e below _ (s₁.setTop (mkF m 15 #[.val (.int p1)] [(.int (11 : Int32)), (.int p1)]))
      by_cases hc15 : p1 = (11 : Int32)
      · skip
        refine Gd.st (fun _ k => XS.icmpYes X0.here hx rfl (pc0 := 15) (pc' := 60) rfl (hb hby d2_15) rfl (teq hc15).1 (by decide) (by decide) k) ?_
        show Gd p.tables e below _ (s₁.setTop (mkF m 60 #[.val (.int p1)] []))
        refine Gd.st (fun _ k => XS.iconst X0.here hx rfl (hb hby d2_60) k) ?_
        show Gd p.tables e below _ (s₁.setTop (mkF m 61 #[.val (.int p1)] [(.int (1 : Int32))]))
        refine Gd.st (fun _ k => XS.goto X0.here hx rfl (pc0 := 61) (pc' := 65) rfl (hb hby d2_61) (by decide) (by decide) k) ?_
        show Gd p.tables e below _ (s₁.setTop (mkF m 65 #[.val (.int p1)] [(.int (1 : Int32))]))
        obtain ⟨fs, hr, hrun, hended, hW, hsame⟩ := X0.leave (v := some (.int (1 : Int32))) (fun h => by rw [Bd.returns] at h; cases h) Bd.notSynchronized
        refine Gd.mk (o := .returned (some (.int (1 : Int32)))) (retN X0 hx (t := .boolean) Bd.returns (by simp) (hb hby d2_65) hr) ⟨hrun, hended, _, _, rfl, ?_, ⟨_, rfl⟩, hW, hsame.mono (by decide) (by decide)⟩
        show Q2 Z p1 h0 n0 _ s₁.heap _
        rw [e0]
        exact ⟨(by first | (simp only [own_ref, eq_false hc3, eq_false hc9, eq_true hc15, not_true_eq_false, not_false_eq_true, and_true, true_and, and_false, false_and, or_true, true_or, or_false, false_or, if_true, if_false]; done) | simp [own_ref, eq_false hc3, eq_false hc9, eq_true hc15]), N0, rfl⟩
      · skip
        refine Gd.st (fun _ k => XS.icmpNo X0.here hx rfl (hb hby d2_15) rfl (feq hc15).1 k) ?_
        show Gd p.tables e below _ (s₁.setTop (mkF m 18 #[.val (.int p1)] []))
        refine Gd.st (fun _ k => XS.iloadN X0.here hx rfl (hb hby d2_18) rfl k) ?_
        show Gd p.tables e below _ (s₁.setTop (mkF m 19 #[.val (.int p1)] [(.int p1)]))
        refine Gd.st (fun _ k => XS.bipush X0.here hx rfl (hb hby d2_19) k) ?_
        show Gd p.tables e below _ (s₁.setTop (mkF m 21 #[.val (.int p1)] [(.int (12 : Int32)), (.int p1)]))
        by_cases hc21 : p1 = (12 : Int32)
        · skip
          refine Gd.st (fun _ k => XS.icmpYes X0.here hx rfl (pc0 := 21) (pc' := 60) rfl (hb hby d2_21) rfl (teq hc21).1 (by decide) (by decide) k) ?_
          show Gd p.tables e below _ (s₁.setTop (mkF m 60 #[.val (.int p1)] []))
          refine Gd.st (fun _ k => XS.iconst X0.here hx rfl (hb hby d2_60) k) ?_
          show Gd p.tables e below _ (s₁.setTop (mkF m 61 #[.val (.int p1)] [(.int (1 : Int32))]))
          refine Gd.st (fun _ k => XS.goto X0.here hx rfl (pc0 := 61) (pc' := 65) rfl (hb hby d2_61) (by decide) (by decide) k) ?_
          show Gd p.tables e below _ (s₁.setTop (mkF m 65 #[.val (.int p1)] [(.int (1 : Int32))]))
          obtain ⟨fs, hr, hrun, hended, hW, hsame⟩ := X0.leave (v := some (.int (1 : Int32))) (fun h => by rw [Bd.returns] at h; cases h) Bd.notSynchronized
          refine Gd.mk (o := .returned (some (.int (1 : Int32)))) (retN X0 hx (t := .boolean) Bd.returns (by simp) (hb hby d2_65) hr) ⟨hrun, hended, _, _, rfl, ?_, ⟨_, rfl⟩, hW, hsame.mono (by decide) (by decide)⟩
          show Q2 Z p1 h0 n0 _ s₁.heap _
          rw [e0]
          exact ⟨(by first | (simp only [own_ref, eq_false hc3, eq_false hc9, eq_false hc15, eq_true hc21, not_true_eq_false, not_false_eq_true, and_true, true_and, and_false, false_and, or_true, true_or, or_false, false_or, if_true, if_false]; done) | simp [own_ref, eq_false hc3, eq_false hc9, eq_false hc15, eq_true hc21]), N0, rfl⟩
        · skip
          refine Gd.st (fun _ k => XS.icmpNo X0.here hx rfl (hb hby d2_21) rfl (feq hc21).1 k) ?_
          show Gd p.tables e below _ (s₁.setTop (mkF m 24 #[.val (.int p1)] []))
          refine Gd.st (fun _ k => XS.iloadN X0.here hx rfl (hb hby d2_24) rfl k) ?_
          show Gd p.tables e below _ (s₁.setTop (mkF m 25 #[.val (.int p1)] [(.int p1)]))
          refine Gd.st (fun _ k => XS.bipush X0.here hx rfl (hb hby d2_25) k) ?_
          show Gd p.tables e below _ (s₁.setTop (mkF m 27 #[.val (.int p1)] [(.int (13 : Int32)), (.int p1)]))
          by_cases hc27 : p1 = (13 : Int32)
          · skip
            refine Gd.st (fun _ k => XS.icmpYes X0.here hx rfl (pc0 := 27) (pc' := 60) rfl (hb hby d2_27) rfl (teq hc27).1 (by decide) (by decide) k) ?_
            show Gd p.tables e below _ (s₁.setTop (mkF m 60 #[.val (.int p1)] []))
            refine Gd.st (fun _ k => XS.iconst X0.here hx rfl (hb hby d2_60) k) ?_
            show Gd p.tables e below _ (s₁.setTop (mkF m 61 #[.val (.int p1)] [(.int (1 : Int32))]))
            refine Gd.st (fun _ k => XS.goto X0.here hx rfl (pc0 := 61) (pc' := 65) rfl (hb hby d2_61) (by decide) (by decide) k) ?_
            show Gd p.tables e below _ (s₁.setTop (mkF m 65 #[.val (.int p1)] [(.int (1 : Int32))]))
            obtain ⟨fs, hr, hrun, hended, hW, hsame⟩ := X0.leave (v := some (.int (1 : Int32))) (fun h => by rw [Bd.returns] at h; cases h) Bd.notSynchronized
            refine Gd.mk (o := .returned (some (.int (1 : Int32)))) (retN X0 hx (t := .boolean) Bd.returns (by simp) (hb hby d2_65) hr) ⟨hrun, hended, _, _, rfl, ?_, ⟨_, rfl⟩, hW, hsame.mono (by decide) (by decide)⟩
            show Q2 Z p1 h0 n0 _ s₁.heap _
            rw [e0]
            exact ⟨(by first | (simp only [own_ref, eq_false hc3, eq_false hc9, eq_false hc15, eq_false hc21, eq_true hc27, not_true_eq_false, not_false_eq_true, and_true, true_and, and_false, false_and, or_true, true_or, or_false, false_or, if_true, if_false]; done) | simp [own_ref, eq_false hc3, eq_false hc9, eq_false hc15, eq_false hc21, eq_true hc27]), N0, rfl⟩
          · skip
            refine Gd.st (fun _ k => XS.icmpNo X0.here hx rfl (hb hby d2_27) rfl (feq hc27).1 k) ?_
            show Gd p.tables e below _ (s₁.setTop (mkF m 30 #[.val (.int p1)] []))
            refine Gd.st (fun _ k => XS.iloadN X0.here hx rfl (hb hby d2_30) rfl k) ?_
            show Gd p.tables e below _ (s₁.setTop (mkF m 31 #[.val (.int p1)] [(.int p1)]))
            refine Gd.st (fun _ k => XS.bipush X0.here hx rfl (hb hby d2_31) k) ?_
            show Gd p.tables e below _ (s₁.setTop (mkF m 33 #[.val (.int p1)] [(.int (28 : Int32)), (.int p1)]))
            by_cases hc33 : p1 = (28 : Int32)
            · skip
              refine Gd.st (fun _ k => XS.icmpYes X0.here hx rfl (pc0 := 33) (pc' := 60) rfl (hb hby d2_33) rfl (teq hc33).1 (by decide) (by decide) k) ?_
              show Gd p.tables e below _ (s₁.setTop (mkF m 60 #[.val (.int p1)] []))
              refine Gd.st (fun _ k => XS.iconst X0.here hx rfl (hb hby d2_60) k) ?_
              show Gd p.tables e below _ (s₁.setTop (mkF m 61 #[.val (.int p1)] [(.int (1 : Int32))]))
              refine Gd.st (fun _ k => XS.goto X0.here hx rfl (pc0 := 61) (pc' := 65) rfl (hb hby d2_61) (by decide) (by decide) k) ?_
              show Gd p.tables e below _ (s₁.setTop (mkF m 65 #[.val (.int p1)] [(.int (1 : Int32))]))
              obtain ⟨fs, hr, hrun, hended, hW, hsame⟩ := X0.leave (v := some (.int (1 : Int32))) (fun h => by rw [Bd.returns] at h; cases h) Bd.notSynchronized
              refine Gd.mk (o := .returned (some (.int (1 : Int32)))) (retN X0 hx (t := .boolean) Bd.returns (by simp) (hb hby d2_65) hr) ⟨hrun, hended, _, _, rfl, ?_, ⟨_, rfl⟩, hW, hsame.mono (by decide) (by decide)⟩
              show Q2 Z p1 h0 n0 _ s₁.heap _
              rw [e0]
              exact ⟨(by first | (simp only [own_ref, eq_false hc3, eq_false hc9, eq_false hc15, eq_false hc21, eq_false hc27, eq_true hc33, not_true_eq_false, not_false_eq_true, and_true, true_and, and_false, false_and, or_true, true_or, or_false, false_or, if_true, if_false]; done) | simp [own_ref, eq_false hc3, eq_false hc9, eq_false hc15, eq_false hc21, eq_false hc27, eq_true hc33]), N0, rfl⟩
            · skip
              refine Gd.st (fun _ k => XS.icmpNo X0.here hx rfl (hb hby d2_33) rfl (feq hc33).1 k) ?_
              show Gd p.tables e below _ (s₁.setTop (mkF m 36 #[.val (.int p1)] []))
              refine Gd.st (fun _ k => XS.iloadN X0.here hx rfl (hb hby d2_36) rfl k) ?_
              show Gd p.tables e below _ (s₁.setTop (mkF m 37 #[.val (.int p1)] [(.int p1)]))
              refine Gd.st (fun _ k => XS.bipush X0.here hx rfl (hb hby d2_37) k) ?_
              show Gd p.tables e below _ (s₁.setTop (mkF m 39 #[.val (.int p1)] [(.int (29 : Int32)), (.int p1)]))
              by_cases hc39 : p1 = (29 : Int32)
              · skip
                refine Gd.st (fun _ k => XS.icmpYes X0.here hx rfl (pc0 := 39) (pc' := 60) rfl (hb hby d2_39) rfl (teq hc39).1 (by decide) (by decide) k) ?_
                show Gd p.tables e below _ (s₁.setTop (mkF m 60 #[.val (.int p1)] []))
                refine Gd.st (fun _ k => XS.iconst X0.here hx rfl (hb hby d2_60) k) ?_
                show Gd p.tables e below _ (s₁.setTop (mkF m 61 #[.val (.int p1)] [(.int (1 : Int32))]))
                refine Gd.st (fun _ k => XS.goto X0.here hx rfl (pc0 := 61) (pc' := 65) rfl (hb hby d2_61) (by decide) (by decide) k) ?_
                show Gd p.tables e below _ (s₁.setTop (mkF m 65 #[.val (.int p1)] [(.int (1 : Int32))]))
                obtain ⟨fs, hr, hrun, hended, hW, hsame⟩ := X0.leave (v := some (.int (1 : Int32))) (fun h => by rw [Bd.returns] at h; cases h) Bd.notSynchronized
                refine Gd.mk (o := .returned (some (.int (1 : Int32)))) (retN X0 hx (t := .boolean) Bd.returns (by simp) (hb hby d2_65) hr) ⟨hrun, hended, _, _, rfl, ?_, ⟨_, rfl⟩, hW, hsame.mono (by decide) (by decide)⟩
                show Q2 Z p1 h0 n0 _ s₁.heap _
                rw [e0]
                exact ⟨(by first | (simp only [own_ref, eq_false hc3, eq_false hc9, eq_false hc15, eq_false hc21, eq_false hc27, eq_false hc33, eq_true hc39, not_true_eq_false, not_false_eq_true, and_true, true_and, and_false, false_and, or_true, true_or, or_false, false_or, if_true, if_false]; done) | simp [own_ref, eq_false hc3, eq_false hc9, eq_false hc15, eq_false hc21, eq_false hc27, eq_false hc33, eq_true hc39]), N0, rfl⟩
              · skip
                refine Gd.st (fun _ k => XS.icmpNo X0.here hx rfl (hb hby d2_39) rfl (feq hc39).1 k) ?_
                show Gd p.tables e below _ (s₁.setTop (mkF m 42 #[.val (.int p1)] []))
                refine Gd.st (fun _ k => XS.iloadN X0.here hx rfl (hb hby d2_42) rfl k) ?_
                show Gd p.tables e below _ (s₁.setTop (mkF m 43 #[.val (.int p1)] [(.int p1)]))
                refine Gd.st (fun _ k => XS.bipush X0.here hx rfl (hb hby d2_43) k) ?_
                show Gd p.tables e below _ (s₁.setTop (mkF m 45 #[.val (.int p1)] [(.int (30 : Int32)), (.int p1)]))
                by_cases hc45 : p1 = (30 : Int32)
                · skip
                  refine Gd.st (fun _ k => XS.icmpYes X0.here hx rfl (pc0 := 45) (pc' := 60) rfl (hb hby d2_45) rfl (teq hc45).1 (by decide) (by decide) k) ?_
                  show Gd p.tables e below _ (s₁.setTop (mkF m 60 #[.val (.int p1)] []))
                  refine Gd.st (fun _ k => XS.iconst X0.here hx rfl (hb hby d2_60) k) ?_
                  show Gd p.tables e below _ (s₁.setTop (mkF m 61 #[.val (.int p1)] [(.int (1 : Int32))]))
                  refine Gd.st (fun _ k => XS.goto X0.here hx rfl (pc0 := 61) (pc' := 65) rfl (hb hby d2_61) (by decide) (by decide) k) ?_
                  show Gd p.tables e below _ (s₁.setTop (mkF m 65 #[.val (.int p1)] [(.int (1 : Int32))]))
                  obtain ⟨fs, hr, hrun, hended, hW, hsame⟩ := X0.leave (v := some (.int (1 : Int32))) (fun h => by rw [Bd.returns] at h; cases h) Bd.notSynchronized
                  refine Gd.mk (o := .returned (some (.int (1 : Int32)))) (retN X0 hx (t := .boolean) Bd.returns (by simp) (hb hby d2_65) hr) ⟨hrun, hended, _, _, rfl, ?_, ⟨_, rfl⟩, hW, hsame.mono (by decide) (by decide)⟩
                  show Q2 Z p1 h0 n0 _ s₁.heap _
                  rw [e0]
                  exact ⟨(by first | (simp only [own_ref, eq_false hc3, eq_false hc9, eq_false hc15, eq_false hc21, eq_false hc27, eq_false hc33, eq_false hc39, eq_true hc45, not_true_eq_false, not_false_eq_true, and_true, true_and, and_false, false_and, or_true, true_or, or_false, false_or, if_true, if_false]; done) | simp [own_ref, eq_false hc3, eq_false hc9, eq_false hc15, eq_false hc21, eq_false hc27, eq_false hc33, eq_false hc39, eq_true hc45]), N0, rfl⟩
                · skip
                  refine Gd.st (fun _ k => XS.icmpNo X0.here hx rfl (hb hby d2_45) rfl (feq hc45).1 k) ?_
                  show Gd p.tables e below _ (s₁.setTop (mkF m 48 #[.val (.int p1)] []))
                  refine Gd.st (fun _ k => XS.iloadN X0.here hx rfl (hb hby d2_48) rfl k) ?_
                  show Gd p.tables e below _ (s₁.setTop (mkF m 49 #[.val (.int p1)] [(.int p1)]))
                  refine Gd.st (fun _ k => XS.bipush X0.here hx rfl (hb hby d2_49) k) ?_
                  show Gd p.tables e below _ (s₁.setTop (mkF m 51 #[.val (.int p1)] [(.int (31 : Int32)), (.int p1)]))
                  by_cases hc51 : p1 = (31 : Int32)
                  · skip
                    refine Gd.st (fun _ k => XS.icmpYes X0.here hx rfl (pc0 := 51) (pc' := 60) rfl (hb hby d2_51) rfl (teq hc51).1 (by decide) (by decide) k) ?_
                    show Gd p.tables e below _ (s₁.setTop (mkF m 60 #[.val (.int p1)] []))
                    refine Gd.st (fun _ k => XS.iconst X0.here hx rfl (hb hby d2_60) k) ?_
                    show Gd p.tables e below _ (s₁.setTop (mkF m 61 #[.val (.int p1)] [(.int (1 : Int32))]))
                    refine Gd.st (fun _ k => XS.goto X0.here hx rfl (pc0 := 61) (pc' := 65) rfl (hb hby d2_61) (by decide) (by decide) k) ?_
                    show Gd p.tables e below _ (s₁.setTop (mkF m 65 #[.val (.int p1)] [(.int (1 : Int32))]))
                    obtain ⟨fs, hr, hrun, hended, hW, hsame⟩ := X0.leave (v := some (.int (1 : Int32))) (fun h => by rw [Bd.returns] at h; cases h) Bd.notSynchronized
                    refine Gd.mk (o := .returned (some (.int (1 : Int32)))) (retN X0 hx (t := .boolean) Bd.returns (by simp) (hb hby d2_65) hr) ⟨hrun, hended, _, _, rfl, ?_, ⟨_, rfl⟩, hW, hsame.mono (by decide) (by decide)⟩
                    show Q2 Z p1 h0 n0 _ s₁.heap _
                    rw [e0]
                    exact ⟨(by first | (simp only [own_ref, eq_false hc3, eq_false hc9, eq_false hc15, eq_false hc21, eq_false hc27, eq_false hc33, eq_false hc39, eq_false hc45, eq_true hc51, not_true_eq_false, not_false_eq_true, and_true, true_and, and_false, false_and, or_true, true_or, or_false, false_or, if_true, if_false]; done) | simp [own_ref, eq_false hc3, eq_false hc9, eq_false hc15, eq_false hc21, eq_false hc27, eq_false hc33, eq_false hc39, eq_false hc45, eq_true hc51]), N0, rfl⟩
                  · skip
                    refine Gd.st (fun _ k => XS.icmpNo X0.here hx rfl (hb hby d2_51) rfl (feq hc51).1 k) ?_
                    show Gd p.tables e below _ (s₁.setTop (mkF m 54 #[.val (.int p1)] []))
                    refine Gd.st (fun _ k => XS.iloadN X0.here hx rfl (hb hby d2_54) rfl k) ?_
                    show Gd p.tables e below _ (s₁.setTop (mkF m 55 #[.val (.int p1)] [(.int p1)]))
                    refine Gd.st (fun _ k => XS.bipush X0.here hx rfl (hb hby d2_55) k) ?_
                    show Gd p.tables e below _ (s₁.setTop (mkF m 57 #[.val (.int p1)] [(.int (32 : Int32)), (.int p1)]))
                    by_cases hc57 : p1 = (32 : Int32)
                    · skip
                      refine Gd.st (fun _ k => XS.icmpNo X0.here hx rfl (hb hby d2_57) rfl (teq hc57).2 k) ?_
                      show Gd p.tables e below _ (s₁.setTop (mkF m 60 #[.val (.int p1)] []))
                      refine Gd.st (fun _ k => XS.iconst X0.here hx rfl (hb hby d2_60) k) ?_
                      show Gd p.tables e below _ (s₁.setTop (mkF m 61 #[.val (.int p1)] [(.int (1 : Int32))]))
                      refine Gd.st (fun _ k => XS.goto X0.here hx rfl (pc0 := 61) (pc' := 65) rfl (hb hby d2_61) (by decide) (by decide) k) ?_
                      show Gd p.tables e below _ (s₁.setTop (mkF m 65 #[.val (.int p1)] [(.int (1 : Int32))]))
                      obtain ⟨fs, hr, hrun, hended, hW, hsame⟩ := X0.leave (v := some (.int (1 : Int32))) (fun h => by rw [Bd.returns] at h; cases h) Bd.notSynchronized
                      refine Gd.mk (o := .returned (some (.int (1 : Int32)))) (retN X0 hx (t := .boolean) Bd.returns (by simp) (hb hby d2_65) hr) ⟨hrun, hended, _, _, rfl, ?_, ⟨_, rfl⟩, hW, hsame.mono (by decide) (by decide)⟩
                      show Q2 Z p1 h0 n0 _ s₁.heap _
                      rw [e0]
                      exact ⟨(by first | (simp only [own_ref, eq_false hc3, eq_false hc9, eq_false hc15, eq_false hc21, eq_false hc27, eq_false hc33, eq_false hc39, eq_false hc45, eq_false hc51, eq_true hc57, not_true_eq_false, not_false_eq_true, and_true, true_and, and_false, false_and, or_true, true_or, or_false, false_or, if_true, if_false]; done) | simp [own_ref, eq_false hc3, eq_false hc9, eq_false hc15, eq_false hc21, eq_false hc27, eq_false hc33, eq_false hc39, eq_false hc45, eq_false hc51, eq_true hc57]), N0, rfl⟩
                    · skip
                      refine Gd.st (fun _ k => XS.icmpYes X0.here hx rfl (pc0 := 57) (pc' := 64) rfl (hb hby d2_57) rfl (feq hc57).2 (by decide) (by decide) k) ?_
                      show Gd p.tables e below _ (s₁.setTop (mkF m 64 #[.val (.int p1)] []))
                      refine Gd.st (fun _ k => XS.iconst X0.here hx rfl (hb hby d2_64) k) ?_
                      show Gd p.tables e below _ (s₁.setTop (mkF m 65 #[.val (.int p1)] [(.int (0 : Int32))]))
                      obtain ⟨fs, hr, hrun, hended, hW, hsame⟩ := X0.leave (v := some (.int (0 : Int32))) (fun h => by rw [Bd.returns] at h; cases h) Bd.notSynchronized
                      refine Gd.mk (o := .returned (some (.int (0 : Int32)))) (retN X0 hx (t := .boolean) Bd.returns (by simp) (hb hby d2_65) hr) ⟨hrun, hended, _, _, rfl, ?_, ⟨_, rfl⟩, hW, hsame.mono (by decide) (by decide)⟩
                      show Q2 Z p1 h0 n0 _ s₁.heap _
                      rw [e0]
                      exact ⟨(by first | (simp only [own_ref, eq_false hc3, eq_false hc9, eq_false hc15, eq_false hc21, eq_false hc27, eq_false hc33, eq_false hc39, eq_false hc45, eq_false hc51, eq_false hc57, not_true_eq_false, not_false_eq_true, and_true, true_and, and_false, false_and, or_true, true_or, or_false, false_or, if_true, if_false]; done) | simp [own_ref, eq_false hc3, eq_false hc9, eq_false hc15, eq_false hc21, eq_false hc27, eq_false hc33, eq_false hc39, eq_false hc45, eq_false hc51, eq_false hc57]), N0, rfl⟩
theorem ef_0 (m : MethodId) (x0 : Int32) : entryFrame m #[(.int x0)] maxLocals = mkF m 0 #[.val (.int x0), .unset, .unset, .unset] [] := by first | (simp [entryFrame, mkF, argsToLocals, Value.category, maxLocals]; done) | rfl
theorem pd__I_Z_4 : parseMethodDescriptor "(I)Z" = some ⟨[.int], some .boolean⟩ := by decide +kernel
def Q0 (Z : State) (p1 : Int32) (h0 : Heap) (n0 : Nat) (v : Option Value) (h : Heap) (L : List Loc) : Prop := v = some (.int (1 : Int32)) ∧ Fr n0 L
set_option maxRecDepth 65536 in
set_option maxHeartbeats 40000000 in
theorem rm0 (l : Launch) (Z : State) (a0 : Array Value) (hw : ∀ d ∈ tables_1, d.before a0 Z = true) (ws : List Jvm.Cond) (p1 : Int32) (h0 : Heap) (n0 : Nat) (Z0 : n0 ≤ h0.size) :
    MetFree l x (head1 (Jvm.Cond.code x code maxLocals ret :: ws) room_1) (fun a U => a = #[(.int p1)] ∧ Z.Warmed39 U.vm ∧ U.heap = h0) (fun _ _ _ _ _ => True) (fun _ U o U' => ∃ v L, o = .returned v ∧ Q0 Z p1 h0 n0 v U'.heap L ∧ FrameEnd U o U' L room_1.cells room_1.slots) := by
  refine MetFree.of_bodySF (plainFor_of_name pn_TextFileIsAsciiWhitespacePinLaw) hisR ?_
  intro p e s m args below meth c s₁ Bd hml0 hP hK
  obtain ⟨rfl, hZ, hh⟩ := hP
  have hx := Bd.exec
  have hby := Bd.bytes
  have hml : c.maxLocals = 4 := hml0
  have hown : s.vm.findClass "com/example/linearis/linearis/io/TextFileIsAsciiWhitespacePinLaw" = some m.cls := findClass_of_methodNamed Bd.named
  have hnm := (name_of_methodNamed Bd.named Bd.method).1
  have X0 : Stand p l e room_1 s m #[(.int p1)] below meth c s₁ [] 0 0 := Stand.of_body Bd
  have e0 : s₁.heap = h0 := by rw [← hh, Bd.state]; rfl
  have N0 := Fr.nil n0
  refine Gd.out (Gd.st (fun t k => castTop (ef_0 m p1) k) ?_)
  show Gd p.tables e below _ (s₁.setTop (mkF m 0 #[.val (.int p1), .unset, .unset, .unset] []))
  refine Gd.st (fun _ k => XS.iloadN X0.here hx rfl (hb hby at_0) rfl k) ?_
  show Gd p.tables e below _ (s₁.setTop (mkF m 1 #[.val (.int p1), .unset, .unset, .unset] [(.int p1)]))
  refine Gd.st (fun _ k => XS.istoreN X0.here hx rfl (hb hby at_1) rfl (l' := #[.val (.int p1), .val (.int p1), .unset, .unset]) rfl k) ?_
  show Gd p.tables e below _ (s₁.setTop (mkF m 2 #[.val (.int p1), .val (.int p1), .unset, .unset] []))
  refine Gd.st (fun _ k => XS.iloadN X0.here hx rfl (hb hby at_2) rfl k) ?_
  show Gd p.tables e below _ (s₁.setTop (mkF m 3 #[.val (.int p1), .val (.int p1), .unset, .unset] [(.int p1)]))
  refine Gd.st (fun _ k => XS.bipush X0.here hx rfl (hb hby at_3) k) ?_
  show Gd p.tables e below _ (s₁.setTop (mkF m 5 #[.val (.int p1), .val (.int p1), .unset, .unset] [(.int (127 : Int32)), (.int p1)]))
  refine Gd.st (fun _ k => XS.iand X0.here hx rfl (hb hby at_5) rfl k) ?_
  show Gd p.tables e below _ (s₁.setTop (mkF m 6 #[.val (.int p1), .val (.int p1), .unset, .unset] [(.int (p1 &&& (127 : Int32)))]))
  refine Gd.st (fun _ k => XS.istoreN X0.here hx rfl (hb hby at_6) rfl (l' := #[.val (.int p1), .val (.int p1), .val (.int (p1 &&& (127 : Int32))), .unset]) rfl k) ?_
  show Gd p.tables e below _ (s₁.setTop (mkF m 7 #[.val (.int p1), .val (.int p1), .val (.int (p1 &&& (127 : Int32))), .unset] []))
  refine Gd.st (fun _ k => XS.iloadN X0.here hx rfl (hb hby at_7) rfl k) ?_
  show Gd p.tables e below _ (s₁.setTop (mkF m 8 #[.val (.int p1), .val (.int p1), .val (.int (p1 &&& (127 : Int32))), .unset] [(.int p1)]))
  refine Gd.st (fun _ k => XS.i2b X0.here hx rfl (hb hby at_8) rfl k) ?_
  show Gd p.tables e below _ (s₁.setTop (mkF m 9 #[.val (.int p1), .val (.int p1), .val (.int (p1 &&& (127 : Int32))), .unset] [(.int (p1.toInt8.toInt32))]))
  refine Gd.st (fun _ k => XS.istoreN X0.here hx rfl (hb hby at_9) rfl (l' := #[.val (.int p1), .val (.int p1), .val (.int (p1 &&& (127 : Int32))), .val (.int (p1.toInt8.toInt32))]) rfl k) ?_
  show Gd p.tables e below _ (s₁.setTop (mkF m 10 #[.val (.int p1), .val (.int p1), .val (.int (p1 &&& (127 : Int32))), .val (.int (p1.toInt8.toInt32))] []))
  refine Gd.st (fun _ k => XS.iloadN X0.here hx rfl (hb hby at_10) rfl k) ?_
  show Gd p.tables e below _ (s₁.setTop (mkF m 11 #[.val (.int p1), .val (.int p1), .val (.int (p1 &&& (127 : Int32))), .val (.int (p1.toInt8.toInt32))] [(.int p1)]))
  obtain ⟨_, _, ⟨T1, L1, k1, n1⟩, -, X1, ⟨Lc1, hQ1, l1, y1, z1⟩, st1⟩ := Jvm.LawKit.callS X0 hx (y := (⟨"com/example/linearis/linearis/io/TextFile", "isAsciiWhitespace", "(I)Z"⟩ : MethodName)) hown (mvT hZ (hw _ (List.mem_of_getElem? (i := 0) rfl))) (mvT hZ (hw _ (List.mem_of_getElem? (i := 1) rfl))) (mvT hZ (hw _ (List.mem_of_getElem? (i := 2) rfl))) (mvT hZ (hw _ (List.mem_of_getElem? (i := 3) rfl))) (by decide) (backOf (W := 0) (rm1 l Z a0 hw [] p1 h0 n0 Z0 ) hZ (hw _ (List.mem_of_getElem? (i := 3) rfl)) (hw _ (List.mem_of_getElem? (i := 2) rfl)) (by decide) (by decide)) (g := (mkF m 11 #[.val (.int p1), .val (.int p1), .val (.int (p1 &&& (127 : Int32))), .val (.int (p1.toInt8.toInt32))] [(.int p1)])) rfl (by rw [hml]; rfl) (argsL := [(.int p1)]) (rest := []) (lenOf pd__I_Z_4 rfl) rfl (by show 2 * 0 + _ ≤ _; exact Nat.le_of_eq rfl) (hb hby at_11) (fun _ _ => ⟨rfl, e0, (by decide : 0 + 0 ≤ _), (by decide : 0 + 0 ≤ _)⟩)
  dsimp only [Pt.U, Pt.locs, Pt.cells, Pt.slots] at X1 l1 y1 z1 st1 hQ1
  simp only [Nat.add_zero, Nat.zero_add, Nat.reduceAdd] at y1 z1
  subst y1 z1
  obtain ⟨rfl, N1q, eh1⟩ := hQ1
  have N1 : Fr n0 L1 := by rw [l1]; exact Fr.app N0 N1q
  clear l1
  refine Gd.st st1 ?_
  have e1 : T1.heap = h0 := eh1
  show Gd p.tables e below _ (T1.setTop (mkF m 14 #[.val (.int p1), .val (.int p1), .val (.int (p1 &&& (127 : Int32))), .val (.int (p1.toInt8.toInt32))] [(.int (own_ws p1))]))
  refine Gd.st (fun _ k => XS.iloadN X1.here hx rfl (hb hby at_14) rfl k) ?_
  show Gd p.tables e below _ (T1.setTop (mkF m 15 #[.val (.int p1), .val (.int p1), .val (.int (p1 &&& (127 : Int32))), .val (.int (p1.toInt8.toInt32))] [(.int p1), (.int (own_ws p1))]))
  obtain ⟨_, _, ⟨T2, L2, k2, n2⟩, -, X2, ⟨Lc2, hQ2, l2, y2, z2⟩, st2⟩ := Jvm.LawKit.callS X1 hx (y := (⟨"com/example/linearis/linearis/io/TextFileIsAsciiWhitespacePinLaw", "ref", "(I)Z"⟩ : MethodName)) hown (mvT hZ (hw _ (List.mem_of_getElem? (i := 4) rfl))) (mvT hZ (hw _ (List.mem_of_getElem? (i := 5) rfl))) (mvT hZ (hw _ (List.mem_of_getElem? (i := 6) rfl))) (mvT hZ (hw _ (List.mem_of_getElem? (i := 7) rfl))) (by decide) (backOf (W := 1) (rm2 l Z a0 hw [] p1 h0 n0 Z0 ) hZ (hw _ (List.mem_of_getElem? (i := 7) rfl)) (hw _ (List.mem_of_getElem? (i := 6) rfl)) (by decide) (by decide)) (g := (mkF m 15 #[.val (.int p1), .val (.int p1), .val (.int (p1 &&& (127 : Int32))), .val (.int (p1.toInt8.toInt32))] [(.int p1), (.int (own_ws p1))])) rfl (by rw [hml]; rfl) (argsL := [(.int p1)]) (rest := [(.int (own_ws p1))]) (lenOf pd__I_Z_4 rfl) rfl (by show 2 * 0 + _ ≤ _; exact Nat.le_of_eq rfl) (hb hby at_15) (fun _ _ => ⟨rfl, e1, (by decide : 0 + 0 ≤ _), (by decide : 0 + 0 ≤ _)⟩)
  dsimp only [Pt.U, Pt.locs, Pt.cells, Pt.slots] at X2 l2 y2 z2 st2 hQ2
  simp only [Nat.add_zero, Nat.zero_add, Nat.reduceAdd] at y2 z2
  subst y2 z2
  obtain ⟨rfl, N2q, eh2⟩ := hQ2
  have N2 : Fr n0 L2 := by rw [l2]; exact Fr.app N1 N2q
  clear l2
  refine Gd.st st2 ?_
  have e2 : T2.heap = h0 := eh2
  show Gd p.tables e below _ (T2.setTop (mkF m 18 #[.val (.int p1), .val (.int p1), .val (.int (p1 &&& (127 : Int32))), .val (.int (p1.toInt8.toInt32))] [(.int (own_ref p1)), (.int (own_ws p1))]))
  refine Gd.st (fun _ k => XS.icmpNo X2.here hx rfl (hb hby at_18) rfl (teq (own_law _)).2 k) ?_
  show Gd p.tables e below _ (T2.setTop (mkF m 21 #[.val (.int p1), .val (.int p1), .val (.int (p1 &&& (127 : Int32))), .val (.int (p1.toInt8.toInt32))] []))
  refine Gd.st (fun _ k => XS.iloadN X2.here hx rfl (hb hby at_21) rfl k) ?_
  show Gd p.tables e below _ (T2.setTop (mkF m 22 #[.val (.int p1), .val (.int p1), .val (.int (p1 &&& (127 : Int32))), .val (.int (p1.toInt8.toInt32))] [(.int (p1 &&& (127 : Int32)))]))
  obtain ⟨_, _, ⟨T3, L3, k3, n3⟩, -, X3, ⟨Lc3, hQ3, l3, y3, z3⟩, st3⟩ := Jvm.LawKit.callS X2 hx (y := (⟨"com/example/linearis/linearis/io/TextFile", "isAsciiWhitespace", "(I)Z"⟩ : MethodName)) hown (mvT hZ (hw _ (List.mem_of_getElem? (i := 0) rfl))) (mvT hZ (hw _ (List.mem_of_getElem? (i := 1) rfl))) (mvT hZ (hw _ (List.mem_of_getElem? (i := 2) rfl))) (mvT hZ (hw _ (List.mem_of_getElem? (i := 3) rfl))) (by decide) (backOf (W := 0) (rm1 l Z a0 hw [] (p1 &&& (127 : Int32)) h0 n0 Z0 ) hZ (hw _ (List.mem_of_getElem? (i := 3) rfl)) (hw _ (List.mem_of_getElem? (i := 2) rfl)) (by decide) (by decide)) (g := (mkF m 22 #[.val (.int p1), .val (.int p1), .val (.int (p1 &&& (127 : Int32))), .val (.int (p1.toInt8.toInt32))] [(.int (p1 &&& (127 : Int32)))])) rfl (by rw [hml]; rfl) (argsL := [(.int (p1 &&& (127 : Int32)))]) (rest := []) (lenOf pd__I_Z_4 rfl) rfl (by show 2 * 0 + _ ≤ _; exact Nat.le_of_eq rfl) (hb hby at_22) (fun _ _ => ⟨rfl, e2, (by decide : 0 + 0 ≤ _), (by decide : 0 + 0 ≤ _)⟩)
  dsimp only [Pt.U, Pt.locs, Pt.cells, Pt.slots] at X3 l3 y3 z3 st3 hQ3
  simp only [Nat.add_zero, Nat.zero_add, Nat.reduceAdd] at y3 z3
  subst y3 z3
  obtain ⟨rfl, N3q, eh3⟩ := hQ3
  have N3 : Fr n0 L3 := by rw [l3]; exact Fr.app N2 N3q
  clear l3
  refine Gd.st st3 ?_
  have e3 : T3.heap = h0 := eh3
  show Gd p.tables e below _ (T3.setTop (mkF m 25 #[.val (.int p1), .val (.int p1), .val (.int (p1 &&& (127 : Int32))), .val (.int (p1.toInt8.toInt32))] [(.int (own_ws (p1 &&& (127 : Int32))))]))
  refine Gd.st (fun _ k => XS.iloadN X3.here hx rfl (hb hby at_25) rfl k) ?_
  show Gd p.tables e below _ (T3.setTop (mkF m 26 #[.val (.int p1), .val (.int p1), .val (.int (p1 &&& (127 : Int32))), .val (.int (p1.toInt8.toInt32))] [(.int (p1 &&& (127 : Int32))), (.int (own_ws (p1 &&& (127 : Int32))))]))
  obtain ⟨_, _, ⟨T4, L4, k4, n4⟩, -, X4, ⟨Lc4, hQ4, l4, y4, z4⟩, st4⟩ := Jvm.LawKit.callS X3 hx (y := (⟨"com/example/linearis/linearis/io/TextFileIsAsciiWhitespacePinLaw", "ref", "(I)Z"⟩ : MethodName)) hown (mvT hZ (hw _ (List.mem_of_getElem? (i := 4) rfl))) (mvT hZ (hw _ (List.mem_of_getElem? (i := 5) rfl))) (mvT hZ (hw _ (List.mem_of_getElem? (i := 6) rfl))) (mvT hZ (hw _ (List.mem_of_getElem? (i := 7) rfl))) (by decide) (backOf (W := 1) (rm2 l Z a0 hw [] (p1 &&& (127 : Int32)) h0 n0 Z0 ) hZ (hw _ (List.mem_of_getElem? (i := 7) rfl)) (hw _ (List.mem_of_getElem? (i := 6) rfl)) (by decide) (by decide)) (g := (mkF m 26 #[.val (.int p1), .val (.int p1), .val (.int (p1 &&& (127 : Int32))), .val (.int (p1.toInt8.toInt32))] [(.int (p1 &&& (127 : Int32))), (.int (own_ws (p1 &&& (127 : Int32))))])) rfl (by rw [hml]; rfl) (argsL := [(.int (p1 &&& (127 : Int32)))]) (rest := [(.int (own_ws (p1 &&& (127 : Int32))))]) (lenOf pd__I_Z_4 rfl) rfl (by show 2 * 0 + _ ≤ _; exact Nat.le_of_eq rfl) (hb hby at_26) (fun _ _ => ⟨rfl, e3, (by decide : 0 + 0 ≤ _), (by decide : 0 + 0 ≤ _)⟩)
  dsimp only [Pt.U, Pt.locs, Pt.cells, Pt.slots] at X4 l4 y4 z4 st4 hQ4
  simp only [Nat.add_zero, Nat.zero_add, Nat.reduceAdd] at y4 z4
  subst y4 z4
  obtain ⟨rfl, N4q, eh4⟩ := hQ4
  have N4 : Fr n0 L4 := by rw [l4]; exact Fr.app N3 N4q
  clear l4
  refine Gd.st st4 ?_
  have e4 : T4.heap = h0 := eh4
  show Gd p.tables e below _ (T4.setTop (mkF m 29 #[.val (.int p1), .val (.int p1), .val (.int (p1 &&& (127 : Int32))), .val (.int (p1.toInt8.toInt32))] [(.int (own_ref (p1 &&& (127 : Int32)))), (.int (own_ws (p1 &&& (127 : Int32))))]))
  refine Gd.st (fun _ k => XS.icmpNo X4.here hx rfl (hb hby at_29) rfl (teq (own_law _)).2 k) ?_
  show Gd p.tables e below _ (T4.setTop (mkF m 32 #[.val (.int p1), .val (.int p1), .val (.int (p1 &&& (127 : Int32))), .val (.int (p1.toInt8.toInt32))] []))
  refine Gd.st (fun _ k => XS.iloadN X4.here hx rfl (hb hby at_32) rfl k) ?_
  show Gd p.tables e below _ (T4.setTop (mkF m 33 #[.val (.int p1), .val (.int p1), .val (.int (p1 &&& (127 : Int32))), .val (.int (p1.toInt8.toInt32))] [(.int (p1.toInt8.toInt32))]))
  obtain ⟨_, _, ⟨T5, L5, k5, n5⟩, -, X5, ⟨Lc5, hQ5, l5, y5, z5⟩, st5⟩ := Jvm.LawKit.callS X4 hx (y := (⟨"com/example/linearis/linearis/io/TextFile", "isAsciiWhitespace", "(I)Z"⟩ : MethodName)) hown (mvT hZ (hw _ (List.mem_of_getElem? (i := 0) rfl))) (mvT hZ (hw _ (List.mem_of_getElem? (i := 1) rfl))) (mvT hZ (hw _ (List.mem_of_getElem? (i := 2) rfl))) (mvT hZ (hw _ (List.mem_of_getElem? (i := 3) rfl))) (by decide) (backOf (W := 0) (rm1 l Z a0 hw [] (p1.toInt8.toInt32) h0 n0 Z0 ) hZ (hw _ (List.mem_of_getElem? (i := 3) rfl)) (hw _ (List.mem_of_getElem? (i := 2) rfl)) (by decide) (by decide)) (g := (mkF m 33 #[.val (.int p1), .val (.int p1), .val (.int (p1 &&& (127 : Int32))), .val (.int (p1.toInt8.toInt32))] [(.int (p1.toInt8.toInt32))])) rfl (by rw [hml]; rfl) (argsL := [(.int (p1.toInt8.toInt32))]) (rest := []) (lenOf pd__I_Z_4 rfl) rfl (by show 2 * 0 + _ ≤ _; exact Nat.le_of_eq rfl) (hb hby at_33) (fun _ _ => ⟨rfl, e4, (by decide : 0 + 0 ≤ _), (by decide : 0 + 0 ≤ _)⟩)
  dsimp only [Pt.U, Pt.locs, Pt.cells, Pt.slots] at X5 l5 y5 z5 st5 hQ5
  simp only [Nat.add_zero, Nat.zero_add, Nat.reduceAdd] at y5 z5
  subst y5 z5
  obtain ⟨rfl, N5q, eh5⟩ := hQ5
  have N5 : Fr n0 L5 := by rw [l5]; exact Fr.app N4 N5q
  clear l5
  refine Gd.st st5 ?_
  have e5 : T5.heap = h0 := eh5
  show Gd p.tables e below _ (T5.setTop (mkF m 36 #[.val (.int p1), .val (.int p1), .val (.int (p1 &&& (127 : Int32))), .val (.int (p1.toInt8.toInt32))] [(.int (own_ws (p1.toInt8.toInt32)))]))
  refine Gd.st (fun _ k => XS.iloadN X5.here hx rfl (hb hby at_36) rfl k) ?_
  show Gd p.tables e below _ (T5.setTop (mkF m 37 #[.val (.int p1), .val (.int p1), .val (.int (p1 &&& (127 : Int32))), .val (.int (p1.toInt8.toInt32))] [(.int (p1.toInt8.toInt32)), (.int (own_ws (p1.toInt8.toInt32)))]))
  obtain ⟨_, _, ⟨T6, L6, k6, n6⟩, -, X6, ⟨Lc6, hQ6, l6, y6, z6⟩, st6⟩ := Jvm.LawKit.callS X5 hx (y := (⟨"com/example/linearis/linearis/io/TextFileIsAsciiWhitespacePinLaw", "ref", "(I)Z"⟩ : MethodName)) hown (mvT hZ (hw _ (List.mem_of_getElem? (i := 4) rfl))) (mvT hZ (hw _ (List.mem_of_getElem? (i := 5) rfl))) (mvT hZ (hw _ (List.mem_of_getElem? (i := 6) rfl))) (mvT hZ (hw _ (List.mem_of_getElem? (i := 7) rfl))) (by decide) (backOf (W := 1) (rm2 l Z a0 hw [] (p1.toInt8.toInt32) h0 n0 Z0 ) hZ (hw _ (List.mem_of_getElem? (i := 7) rfl)) (hw _ (List.mem_of_getElem? (i := 6) rfl)) (by decide) (by decide)) (g := (mkF m 37 #[.val (.int p1), .val (.int p1), .val (.int (p1 &&& (127 : Int32))), .val (.int (p1.toInt8.toInt32))] [(.int (p1.toInt8.toInt32)), (.int (own_ws (p1.toInt8.toInt32)))])) rfl (by rw [hml]; rfl) (argsL := [(.int (p1.toInt8.toInt32))]) (rest := [(.int (own_ws (p1.toInt8.toInt32)))]) (lenOf pd__I_Z_4 rfl) rfl (by show 2 * 0 + _ ≤ _; exact Nat.le_of_eq rfl) (hb hby at_37) (fun _ _ => ⟨rfl, e5, (by decide : 0 + 0 ≤ _), (by decide : 0 + 0 ≤ _)⟩)
  dsimp only [Pt.U, Pt.locs, Pt.cells, Pt.slots] at X6 l6 y6 z6 st6 hQ6
  simp only [Nat.add_zero, Nat.zero_add, Nat.reduceAdd] at y6 z6
  subst y6 z6
  obtain ⟨rfl, N6q, eh6⟩ := hQ6
  have N6 : Fr n0 L6 := by rw [l6]; exact Fr.app N5 N6q
  clear l6
  refine Gd.st st6 ?_
  have e6 : T6.heap = h0 := eh6
  show Gd p.tables e below _ (T6.setTop (mkF m 40 #[.val (.int p1), .val (.int p1), .val (.int (p1 &&& (127 : Int32))), .val (.int (p1.toInt8.toInt32))] [(.int (own_ref (p1.toInt8.toInt32))), (.int (own_ws (p1.toInt8.toInt32)))]))
  refine Gd.st (fun _ k => XS.icmpNo X6.here hx rfl (hb hby at_40) rfl (teq (own_law _)).2 k) ?_
  show Gd p.tables e below _ (T6.setTop (mkF m 43 #[.val (.int p1), .val (.int p1), .val (.int (p1 &&& (127 : Int32))), .val (.int (p1.toInt8.toInt32))] []))
  refine Gd.st (fun _ k => XS.iconst X6.here hx rfl (hb hby at_43) k) ?_
  show Gd p.tables e below _ (T6.setTop (mkF m 44 #[.val (.int p1), .val (.int p1), .val (.int (p1 &&& (127 : Int32))), .val (.int (p1.toInt8.toInt32))] [(.int (1 : Int32))]))
  refine Gd.st (fun _ k => XS.goto X6.here hx rfl (pc0 := 44) (pc' := 48) rfl (hb hby at_44) (by decide) (by decide) k) ?_
  show Gd p.tables e below _ (T6.setTop (mkF m 48 #[.val (.int p1), .val (.int p1), .val (.int (p1 &&& (127 : Int32))), .val (.int (p1.toInt8.toInt32))] [(.int (1 : Int32))]))
  obtain ⟨fs, hr, hrun, hended, hW, hsame⟩ := X6.leave (v := some (.int (1 : Int32))) (fun h => by rw [Bd.returns] at h; cases h) Bd.notSynchronized
  refine Gd.mk (o := .returned (some (.int (1 : Int32)))) (retN X6 hx (t := .boolean) Bd.returns (by simp) (hb hby at_48) hr) ⟨hrun, hended, _, _, rfl, ?_, ⟨_, rfl⟩, hW, hsame.mono (by decide) (by decide)⟩
  show Q0 Z p1 h0 n0 _ T6.heap _
  rw [e6]
  exact ⟨rfl, N6⟩
set_option maxRecDepth 65536 in
set_option maxHeartbeats 40000000 in
theorem comes_1 {Post : Tables → Env → Array Value → State → Outcome → State → Prop} (hpost : ∀ tb e args s v u, (limb_1_1.after args s (.returned v) u = true ∧ limb_1_2.after args s (.returned v) u = true ∧ True) → FrameEnd s (.returned v) u (Jvm.fieldLocs frame_1_writes args s ++ Jvm.arrayLocs frame_1_arrays args s ++ Jvm.staticLocs frame_1_statics s) 0 0 → Post tb e args s (.returned v) u) :
    ArmFor flags0 classFile x code maxLocals ret World_1 tables_1 room_1 Calls_1 rest_1 Pre_1 Post := by
  intro l hfl _ _ p e ha hc hk s m args below hf hA hF happ hP
  obtain ⟨hcalls, hrest, hpre⟩ := hP
  obtain ⟨-, -, -, hnamed, -, -, -, hat⟩ := (Spec.applies_iff hf).mp happ
  obtain ⟨hg, hn⟩ := and_e (Cond.before_iff.mp (show (Jvm.Cond.and given_1 narrow_1).before args s = true from hpre))
  obtain ⟨g1, g2⟩ := and_e hg
  obtain ⟨w0, rfl⟩ : ∃ w0 : Value, args = #[w0] := by
    have hs : args.size = 1 := by simpa [Cond.value, given_1] using g1
    obtain ⟨L⟩ := args
    match L, hs with
    | [w0], _ => exact ⟨w0, rfl⟩
  have hw := fun d (hd : d ∈ tables_1) => atoms_spec (ws := Jvm.Cond.code x code maxLocals ret :: tables_1) hat d (List.mem_cons_of_mem _ hd)
  obtain ⟨i0, ei0⟩ := is_v g2
  obtain rfl : w0 = (.int i0) := Option.some.inj ei0
  obtain ⟨n, o, h1, h2, h3, _, L, rfl, ⟨rfl, N⟩, hq⟩ := rm0 l s _ hw tables_1 i0 s.heap s.heap.size (Nat.le_refl _) p e ha hc hk s m _ below hf ((Spec.applies_iff_loose hf).mp happ).1 ⟨rfl, State.Warmed39.refl s, rfl⟩ trivial
  refine ⟨n, _, h1, h2, h3, hpost _ _ _ _ _ _ ⟨Cond.after_iff.mpr rfl, Cond.after_iff.mpr (eq_i res_at (Term.int_eval (1)) rfl), trivial⟩ ⟨hq.1, hq.2.1, (hq.2.2.sift fun y hy => Or.inr (N y hy)).mono (by decide) (by decide)⟩⟩
theorem main_1_1 : Claimed_1_1 := comes_1 fun _ _ _ _ _ _ h hF => ⟨h.1, hF⟩
theorem main_1_2 : Claimed_1_2 := comes_1 fun _ _ _ _ _ _ h hF => ⟨h.2.1, hF⟩
end Jvm.Pilot.@@N@@
namespace Jvm.Pilot.@@N@@
open Jvm Jvm.ClassFile Sem Op Lib Jvm.Free Jvm.Stand Jvm.Pilot.@@N@@.Jvm.D
/-! MADE BY PROGRAM (witnessworld.py) out of the Statement's table words and the real class files: 9 classes; the members and pool entries that the words name. The judged class is class 1, her method 2. -/
namespace start1
open Jvm.ClassFile
def u (s : String) : CpInfo := .utf8 (stringToUtf16 s)
/-- a pool by its gaps: so many unusable entries, then the entry; so many at the end -/
def gap : Nat → List CpInfo → List CpInfo
  | 0, r => r
  | n + 1, r => .unusable :: gap n r
def poolList (es : List (Nat × CpInfo)) (last : Nat) : List CpInfo := es.foldr (fun e r => gap e.1 (e.2 :: r)) (gap last [])
def pool (es : List (Nat × CpInfo)) (last : Nat) : Array CpInfo := ⟨poolList es last⟩
def fileOf (pool : Array CpInfo) (this : Nat) (attrs : Array Attribute := #[]) (ms : Array MethodInfo := #[]) (fl : Nat := 33) (sup : Nat := 0) (ifs : Array Nat := #[]) (fds : Array FieldInfo := #[]) : ClassFile where
  minorVersion := 0
  majorVersion := 65
  constantPool := pool
  accessFlags := fl
  thisClass := this
  superClass := sup
  interfaces := ifs
  fields := fds
  methods := ms
  attributes := attrs
def plain (name : String) (sup : Option ClassId) : Class where
  name := name
  kind := .ordinary
  loader := none
  accessFlags := 33
  super := sup
  interfaces := #[]
  cf := none
  fields := #[]
  methods := #[]
  instanceTypes := #[]
  staticTypes := #[]
  resolved := #[]
  callSites := []
  init := .initialized
  statics := none
  mirror := none

def pool0 : Array CpInfo := pool [(5, u "<init>"), (0, u "()V"), (1, .class_ 10), (1, u "java/lang/Object")] 113

def k0m0 : Method := { name := "<init>", desc := "()V", sig := { parameters := [], returnType := none }, accessFlags := 1, code := none }
/-- java/lang/Object -/
def k0 : Class := { plain "java/lang/Object" none with
  accessFlags := 33
  interfaces := #[]
  cf := some (fileOf pool0 8 #[] #[{ accessFlags := 1, nameIndex := 5, descriptorIndex := 6, attributes := #[] }] 33 0 #[] #[])
  fields := #[]
  methods := #[k0m0]
  instanceTypes := #[]
  staticTypes := #[]
  resolved := Array.replicate 124 none
  statics := none }

def pool1 : Array CpInfo := pool [(2, .class_ 4), (1, u "java/lang/Object"), (0, u "<init>"), (0, u "()V"), (0, .methodref 8 9), (0, .class_ 10), (0, .nameAndType 11 12), (0, u "com/example/linearis/linearis/io/TextFile"), (0, u "isAsciiWhitespace"), (0, u "(I)Z"), (0, .methodref 14 15), (0, .class_ 16), (0, .nameAndType 17 12), (0, u "com/example/linearis/linearis/io/TextFileIsAsciiWhitespacePinLaw"), (0, u "ref"), (3, u "law")] 2

def k1m0 : Method := { name := "<init>", desc := "()V", sig := { parameters := [], returnType := none }, accessFlags := 2, code := none }
def k1c1 : Code := { maxStack := 2, maxLocals := 1, code := method_2_code, exceptionTable := #[], attributes := #[] }
def k1m1 : Method := { name := "ref", desc := "(I)Z", sig := { parameters := [.int], returnType := some .boolean }, accessFlags := 10, code := some k1c1 }
def k1c2 : Code := { maxStack := 2, maxLocals := 4, code := code, exceptionTable := #[], attributes := #[] }
def k1m2 : Method := { name := "law", desc := "(I)Z", sig := { parameters := [.int], returnType := some .boolean }, accessFlags := 9, code := some k1c2 }
/-- com/example/linearis/linearis/io/TextFileIsAsciiWhitespacePinLaw -/
def k1 : Class := { plain "com/example/linearis/linearis/io/TextFileIsAsciiWhitespacePinLaw" (some 0) with
  accessFlags := 49
  interfaces := #[]
  cf := some (fileOf pool1 14 #[] #[{ accessFlags := 2, nameIndex := 5, descriptorIndex := 6, attributes := #[] }, { accessFlags := 10, nameIndex := 17, descriptorIndex := 12, attributes := #[] }, { accessFlags := 9, nameIndex := 21, descriptorIndex := 12, attributes := #[] }] 49 2 #[] #[])
  fields := #[]
  methods := #[k1m0, k1m1, k1m2]
  instanceTypes := #[]
  staticTypes := #[]
  resolved := Array.replicate 24 none
  statics := none }

def pool2 : Array CpInfo := pool [(2, .class_ 4), (1, u "java/lang/Object"), (0, u "<init>"), (0, u "()V"), (1, .class_ 10), (1, u "com/example/linearis/linearis/io/TextFile"), (105, u "isAsciiWhitespace"), (0, u "(I)Z"), (0, u "BLOCK"), (0, u "I")] 13

def k2m0 : Method := { name := "<init>", desc := "()V", sig := { parameters := [], returnType := none }, accessFlags := 2, code := none }
def k2c1 : Code := { maxStack := 2, maxLocals := 1, code := prog_22_method_7_code, exceptionTable := #[], attributes := #[] }
def k2m1 : Method := { name := "isAsciiWhitespace", desc := "(I)Z", sig := { parameters := [.int], returnType := some .boolean }, accessFlags := 8, code := some k2c1 }
/-- com/example/linearis/linearis/io/TextFile -/
def k2 : Class := { plain "com/example/linearis/linearis/io/TextFile" (some 0) with
  accessFlags := 48
  interfaces := #[]
  cf := some (fileOf pool2 8 #[] #[{ accessFlags := 2, nameIndex := 5, descriptorIndex := 6, attributes := #[] }, { accessFlags := 8, nameIndex := 116, descriptorIndex := 117, attributes := #[] }] 48 2 #[] #[{ accessFlags := 24, nameIndex := 118, descriptorIndex := 119, attributes := #[] }])
  fields := #[{ name := "BLOCK", type := .int, accessFlags := 24, slot := 0, constantValue := 0 }]
  methods := #[k2m0, k2m1]
  instanceTypes := #[]
  staticTypes := #[.int]
  resolved := Array.replicate 133 none
  statics := none }

def pool3 : Array CpInfo := pool [(1, u "java/lang/Cloneable"), (0, .class_ 1), (0, u "java/lang/Object"), (0, .class_ 3)] 3

/-- java/lang/Cloneable -/
def k3 : Class := { plain "java/lang/Cloneable" (some 0) with
  accessFlags := 1537
  interfaces := #[]
  cf := some (fileOf pool3 2 #[] #[] 1537 4 #[] #[])
  fields := #[]
  methods := #[]
  instanceTypes := #[]
  staticTypes := #[]
  resolved := Array.replicate 8 none
  statics := none }

def pool4 : Array CpInfo := pool [(1, u "java/io/Serializable"), (0, .class_ 1), (0, u "java/lang/Object"), (0, .class_ 3)] 3

/-- java/io/Serializable -/
def k4 : Class := { plain "java/io/Serializable" (some 0) with
  accessFlags := 1537
  interfaces := #[]
  cf := some (fileOf pool4 2 #[] #[] 1537 4 #[] #[])
  fields := #[]
  methods := #[]
  instanceTypes := #[]
  staticTypes := #[]
  resolved := Array.replicate 8 none
  statics := none }

/-- the primitive byte -/
def k5 : Class := { plain "byte" none with kind := .primitive 'B', accessFlags := 0x411 }
/-- [B -/
def k6 : Class := { plain "[B" (some 0) with kind := .array 5 .byte, interfaces := #[3, 4], accessFlags := 1041 }

/-- the primitive int -/
def k7 : Class := { plain "int" none with kind := .primitive 'I', accessFlags := 0x411 }
/-- [I -/
def k8 : Class := { plain "[I" (some 0) with kind := .array 7 .int, interfaces := #[3, 4], accessFlags := 1041 }

def heap : Heap := #[]
def classes : Array Class := #[k0, k1, k2, k3, k4, k5, k6, k7, k8]
def interned : List (Array UInt16 × Addr) := []
def slotsUsed : Nat := 0
def theMethod : MethodId := ⟨1, 2⟩
def args0 : Array Value := #[.int 5]
def aboutOver (below : List Frame) : State where
  vm := { classes := classes, interned := interned.toArray }
  heap := heap
  slotsUsed := slotsUsed
  threads := #[{ frames := .invoking theMethod args0 :: below }]
def below0 : List Frame := [.native { method := ⟨0, 0⟩, args := #[] }]
def about1 : State := aboutOver below0
def p0 : Program := .bare "" "" ""
def e0 : Env := launch0.env 0 0 0
theorem w_frames : about1.frames = Frame.invoking theMethod args0 :: below0 := rfl
set_option maxRecDepth 65536 in
theorem w_args : argsFit about1.vm theMethod args0 = true := by decide +kernel
set_option maxRecDepth 65536 in
theorem w_heap : heapFits about1 = true := by decide +kernel
set_option maxRecDepth 65536 in
theorem w_runnable : about1.curStatus? = some .runnable := by decide +kernel
set_option maxRecDepth 65536 in
theorem w_alone : about1.alone = true := by decide +kernel
set_option maxRecDepth 65536 in
theorem w_named : about1.methodNamed? x = some theMethod := by decide +kernel
set_option maxRecDepth 65536 in
theorem w_hears : about1.hears theMethod below0 = true := by decide +kernel
set_option maxRecDepth 65536 in
theorem w_ripe : about1.ripe theMethod args0 below0 = true := by decide +kernel
theorem w_running : about1.status = .running := rfl
set_option maxRecDepth 65536 in
theorem w_room : about1.hasRoom e0.platform room_1 = true :=
  launch0.hasRoom_least _ room_1 (by decide +kernel) (by decide +kernel) (by decide +kernel) (by decide +kernel) (by decide +kernel) (by decide +kernel)
theorem allAtoms_all (ts : List Jvm.Cond) (a : Array Jvm.Value) (st : Jvm.State) : (allAtoms ts).before a st = ts.all (fun c => c.before a st) := by
  induction ts with
  | nil => rfl
  | cons c t ih =>
    show (Jvm.Cond.and c (allAtoms t)).before a st = _
    rw [Jvm.Cond.before_and, ih, List.all_cons]
def words1 : List Jvm.Cond := Jvm.Cond.code x code maxLocals ret :: tables_1
/-- a 'code' word, met by the world's own term for the bytes: nothing is compared byte by byte -/
theorem code_word {y : MethodName} {bytes : ByteArray} {mx : Nat} {rt : Option FieldType} {a : Array Value} {s : State} {m : MethodId} {meth : Method} {c : Code} (h1 : s.methodNamed? y = some m) (h2 : s.vm.method? m = some meth) (h3 : meth.code = some c) (h4 : c.code = bytes)
    (h5 : (c.maxLocals == mx && c.exceptionTable.isEmpty && decide (c.maxStack ≤ mostOperands) && decide (meth.sig.returnType = rt) && !meth.locks && decide (parseMethodDescriptor y.desc = some meth.sig)) = true) : (Jvm.Cond.code y bytes mx rt).before a s = true := by
  simp only [Bool.and_eq_true, beq_iff_eq, Bool.not_eq_true', decide_eq_true_eq] at h5
  obtain ⟨⟨⟨⟨⟨g1, g2⟩, g3⟩, g4⟩, g5⟩, g6⟩ := h5
  simp [Cond.before, Cond.holds, Cond.value, h1, h2, h3, h4, g1, g2, g3, g4, g5, g6]
def isCode : Jvm.Cond → Bool
  | .code _ _ _ _ => true
  | _ => false
theorem all_split {L : List Jvm.Cond} {P : Jvm.Cond → Bool} (h1 : L.all (fun c => isCode c || P c) = true) (h2 : ∀ c ∈ L.filter isCode, P c = true) : L.all P = true := by
  refine List.all_eq_true.mpr fun c hc => ?_
  have h := List.all_eq_true.mp h1 c hc
  rcases Bool.eq_false_or_eq_true (isCode c) with hi | hi
  · exact h2 c (List.mem_filter.mpr ⟨hc, hi⟩)
  · simpa [hi] using h
set_option maxRecDepth 65536 in
theorem w_c0 : (Jvm.Cond.code x code maxLocals ret).before args0 about1 = true := code_word (m := ⟨1, 2⟩) (meth := k1m2) (c := k1c2) (by decide +kernel) rfl rfl rfl (by decide +kernel)
set_option maxRecDepth 65536 in
theorem w_c1 : (Jvm.Cond.code ({ cls := "com/example/linearis/linearis/io/TextFile", name := "isAsciiWhitespace", desc := "(I)Z" } : Jvm.MethodName) prog_22_method_7_code (1 : Nat) (Option.some Jvm.ClassFile.FieldType.boolean)).before args0 about1 = true := code_word (m := ⟨2, 1⟩) (meth := k2m1) (c := k2c1) (by decide +kernel) rfl rfl rfl (by decide +kernel)
set_option maxRecDepth 65536 in
theorem w_c2 : (Jvm.Cond.code ({ cls := "com/example/linearis/linearis/io/TextFileIsAsciiWhitespacePinLaw", name := "ref", desc := "(I)Z" } : Jvm.MethodName) method_2_code (1 : Nat) (Option.some Jvm.ClassFile.FieldType.boolean)).before args0 about1 = true := code_word (m := ⟨1, 1⟩) (meth := k1m1) (c := k1c1) (by decide +kernel) rfl rfl rfl (by decide +kernel)
def codes1 : List Jvm.Cond := [Jvm.Cond.code x code maxLocals ret, Jvm.Cond.code ({ cls := "com/example/linearis/linearis/io/TextFile", name := "isAsciiWhitespace", desc := "(I)Z" } : Jvm.MethodName) prog_22_method_7_code (1 : Nat) (Option.some Jvm.ClassFile.FieldType.boolean), Jvm.Cond.code ({ cls := "com/example/linearis/linearis/io/TextFileIsAsciiWhitespacePinLaw", name := "ref", desc := "(I)Z" } : Jvm.MethodName) method_2_code (1 : Nat) (Option.some Jvm.ClassFile.FieldType.boolean)]
set_option maxRecDepth 65536 in
theorem codes_eq : words1.filter isCode = codes1 := rfl
theorem w_codes : ∀ c ∈ words1.filter isCode, c.before args0 about1 = true := by
  rw [codes_eq]
  intro c hc
  simp only [codes1, List.mem_cons, List.not_mem_nil, or_false] at hc
  rcases hc with rfl | rfl | rfl
  · exact w_c0
  · exact w_c1
  · exact w_c2
set_option maxRecDepth 65536 in
theorem w_t1 : words1.all (fun c => isCode c || c.before args0 about1) = true := by decide +kernel
theorem w_tables : (allAtoms (Jvm.Cond.code x code maxLocals ret :: tables_1)).before args0 about1 = true := by
  rw [allAtoms_all]
  show words1.all (fun c => c.before args0 about1) = true
  refine all_split ?_ w_codes
  rw [w_t1]
set_option maxRecDepth 65536 in
theorem w_case : (Jvm.Cond.and given_1 narrow_1).before args0 about1 = true := by decide +kernel
theorem w_applies : (headSpec (Jvm.Cond.code x code maxLocals ret :: tables_1) room_1).applies x e0.platform about1 = true :=
  (Spec.applies_iff w_frames).mpr ⟨w_running, w_runnable, w_alone, w_named, w_hears, w_ripe, w_room, w_tables⟩
theorem atStart : AtStart classFile x code maxLocals ret World_1 tables_1 room_1 Calls_1 rest_1 Pre_1 launch0 p0 e0 about1 theMethod args0 below0 :=
  ⟨lists_1, trivial, launch0.admits_env _ _ _, launch0.least_env, fairChoices_fair.cas, fairChoices_fair.clock, w_frames, w_args, w_heap, w_applies, trivial, trivial, w_case⟩
end start1
theorem witness_1 : WitnessClaimed_1 := ⟨start1.p0, start1.e0, start1.about1, start1.theMethod, start1.args0, start1.below0, start1.atStart⟩
end Jvm.Pilot.@@N@@
