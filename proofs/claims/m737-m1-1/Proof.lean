import JvmDerived
import JvmDerived.Pilot.@@N@@Statement
import JvmDerived.Pilot.@@N@@Code
set_option linter.unusedVariables false
set_option linter.unusedSimpArgs false
namespace Jvm.RoadKit
open Sem ClassFile Op Lib Jvm.Stand Jvm.Free Jvm.LawKit
section New
variable {p : Program} {l : Launch} {e : Env} {R : Room} {s : State} {m : MethodId} {args : Array Value} {below : List Frame} {meth : Method} {c : Code} {T : State} {locs : List Loc} {cells slots : Nat}
theorem retI (X : Stand p l e R s m args below meth c T locs cells slots) (hx : p.tables.exec = Jvm.exec) {pc : Nat} {Ls : Array Slot} {z : Int32} {rest : List Value} (hret : meth.sig.returnType = some .int) (hd : decode c.code pc = .ok (.ireturn, 1)) {fs : List Frame}
    (hl : ∀ (f : JFrame) (acts : List Action), f.method = m → f.locked = none → f.entered = [] → (doReturn e (T.setTop f) acts (some (.int z))).1 = T.setFrames fs) : Steps p.tables e below (T.setTop (mkF m pc Ls (.int z :: rest))) (T.setFrames fs) := by
  have hm' : T.vm.method? m = some meth := X.method'
  have hn : narrow .int (.int z) = .int z := rfl
  show Steps p.tables e below (T.setTop { method := m, pc := pc, locals := Ls, stack := _ :: rest, locked := none }) _
  jvm_step X.here [X.here.top, hx, hd, hm', hret, hn]
  first | (intro acts; rw [hl _ acts rfl rfl rfl]) | rw [hl _ _ rfl rfl rfl]
  exact Steps.refl _
theorem retA (X : Stand p l e R s m args below meth c T locs cells slots) (hx : p.tables.exec = Jvm.exec) {pc : Nat} {Ls : Array Slot} {a : Addr} {t : FieldType} {rest : List Value} (hret : meth.sig.returnType = some t) (ht : t.isReference = true) (hn : narrow t (.ref a) = .ref a) (hd : decode c.code pc = .ok (.areturn, 1)) {fs : List Frame}
    (hl : ∀ (f : JFrame) (acts : List Action), f.method = m → f.locked = none → f.entered = [] → (doReturn e (T.setTop f) acts (some (.ref a))).1 = T.setFrames fs) : Steps p.tables e below (T.setTop (mkF m pc Ls (.ref a :: rest))) (T.setFrames fs) :=
  retOut X hx hret hn (Or.inr (Or.inr (Or.inr (Or.inr ⟨rfl, ht, rfl⟩)))) hd hl
def Gd (tb : Tables) (e : Env) (below : List Frame) (P : State → Outcome → Prop) (A : State) : Prop := ∃ t o, Steps tb e below A t ∧ P t o
theorem Gd.out {tb : Tables} {P : State → Outcome → Prop} {A : State} (h : Gd tb e below P A) : ∃ t o, Steps tb e below A t ∧ P t o := h
theorem Gd.st {tb : Tables} {P : State → Outcome → Prop} {A B : State} (h : ∀ t, Steps tb e below B t → Steps tb e below A t) (k : Gd tb e below P B) : Gd tb e below P A := by
  obtain ⟨t, o, k1, k2⟩ := k; exact ⟨t, o, h t k1, k2⟩
theorem Gd.join {tb : Tables} {P : State → Outcome → Prop} {A B : State} (h : Gd tb e below P B → Gd tb e below P A) (k : Gd tb e below P B) : Gd tb e below P A := h k
theorem Gd.mk {tb : Tables} {P : State → Outcome → Prop} {A t : State} {o : Outcome} (h : Steps tb e below A t) (k : P t o) : Gd tb e below P A := ⟨t, o, h, k⟩
end New
end Jvm.RoadKit
namespace Jvm.Pilot.@@N@@
open Jvm Jvm.ClassFile Sem Op Lib Jvm.Free Jvm.Stand Jvm.LawKit Jvm.RoadKit Bundle Jvm.Pilot.@@N@@.Jvm.D
def own_up (f : Nat → Int32) (i : Nat) (v : Int32) : Nat → Int32 := fun m => if m = i then v else f m
theorem own_lt (j : Int32) (h : ¬ j < 0 ∧ j < (8 : Int32)) : j.toNatClampNeg < 8 := by
  obtain ⟨h1, h2⟩ := h
  rw [Int32.lt_iff_toInt_lt] at h1 h2
  have e0 : (0 : Int32).toInt = 0 := rfl
  have e8 : (8 : Int32).toInt = 8 := rfl
  unfold Int32.toNatClampNeg
  omega
theorem own_inb (j : Int32) (h : 0 ≤ j.toInt ∧ j.toInt < 8) : ¬ j < 0 ∧ j < (8 : Int32) := by
  rw [Int32.lt_iff_toInt_lt, Int32.lt_iff_toInt_lt]
  have e0 : (0 : Int32).toInt = 0 := rfl
  have e8 : (8 : Int32).toInt = 8 := rfl
  omega
def own_vs (f : Nat → Int32) : List Value := [.int (f 0), .int (f 1), .int (f 2), .int (f 3), .int (f 4), .int (f 5), .int (f 6), .int (f 7)]
theorem own_get (f : Nat → Int32) (i : Nat) (h : i < 8) : (own_vs f).getD i (.int (0 : Int32)) = .int (f i) := by
  have : i = 0 ∨ i = 1 ∨ i = 2 ∨ i = 3 ∨ i = 4 ∨ i = 5 ∨ i = 6 ∨ i = 7 := by omega
  rcases this with rfl | rfl | rfl | rfl | rfl | rfl | rfl | rfl <;> rfl
theorem own_vset (f : Nat → Int32) (i : Nat) (v : Int32) (h : i < 8) : (own_vs f).set i (.int v) = own_vs (own_up f i v) := by
  have : i = 0 ∨ i = 1 ∨ i = 2 ∨ i = 3 ∨ i = 4 ∨ i = 5 ∨ i = 6 ∨ i = 7 := by omega
  rcases this with rfl | rfl | rfl | rfl | rfl | rfl | rfl | rfl <;> rfl
theorem own_put {Z : State} {h h' : Heap} {a : Addr} {k : ClassId} {f : Nat → Int32} {c : Cell} {j x : Int32} (A : Arr Z h a c .byte) (q1 : c.cls = k) (S : c.slots.size = (8 : Int32).toNatClampNeg) (q3 : ¬ (8 : Int32) < 0) (H : Has c (own_vs f) (.int (0 : Int32))) (G : ∀ i, i < c.slots.size → fits .byte ((own_vs f).getD i (.int (0 : Int32))) = true)
    (W : Wr h h' a j.toNatClampNeg (.int (nar .byte x))) (hj : j.toNatClampNeg < 8) : Arv Z h' a k .byte (8 : Int32) (own_vs (own_up f j.toNatClampNeg x.toInt8.toInt32)) (.int (0 : Int32)) := by
  have := Arv.set A q1 S q3 H G (fits_nar_byte x) W j.toNatClampNeg rfl (show j.toNatClampNeg < 8 from hj)
  rwa [own_vset _ _ _ hj] at this
def own_f8 (a b c d e f g h : Int32) : Nat → Int32
  | 0 => a
  | 1 => b
  | 2 => c
  | 3 => d
  | 4 => e
  | 5 => f
  | 6 => g
  | 7 => h
  | _ => 0
def own_by (x : Int32) : Int32 := x.toInt8.toInt32.toInt8.toInt32
def own_sh (w k : Int32) : Int32 := (w.toUInt32 >>> (k &&& 31).toUInt32).toInt32
def own_pl (f : Nat → Int32) (p n a b c d : Int32) : Nat → Int32 :=
  if n = 0 then f
  else if n = 1 then own_up f p.toNatClampNeg a
  else if n = 2 then own_up (own_up f p.toNatClampNeg a) (p + (1 : Int32)).toNatClampNeg b
  else if n = 3 then own_up (own_up (own_up f p.toNatClampNeg a) (p + (1 : Int32)).toNatClampNeg b) (p + (2 : Int32)).toNatClampNeg c
  else own_up (own_up (own_up (own_up f p.toNatClampNeg a) (p + (1 : Int32)).toNatClampNeg b) (p + (2 : Int32)).toNatClampNeg c) (p + (3 : Int32)).toNatClampNeg d
theorem own_pl0 (f : Nat → Int32) (p a b c d : Int32) : own_pl f p (0 : Int32) a b c d = f := by unfold own_pl; rw [if_pos rfl]
theorem own_pl1 (f : Nat → Int32) (p a b c d : Int32) : own_pl f p (1 : Int32) a b c d = own_up f p.toNatClampNeg a := by unfold own_pl; rw [if_neg (by decide), if_pos rfl]
theorem own_pl2 (f : Nat → Int32) (p a b c d : Int32) : own_pl f p (2 : Int32) a b c d = own_up (own_up f p.toNatClampNeg a) (p + (1 : Int32)).toNatClampNeg b := by unfold own_pl; rw [if_neg (by decide), if_neg (by decide), if_pos rfl]
theorem own_pl3 (f : Nat → Int32) (p a b c d : Int32) : own_pl f p (3 : Int32) a b c d = own_up (own_up (own_up f p.toNatClampNeg a) (p + (1 : Int32)).toNatClampNeg b) (p + (2 : Int32)).toNatClampNeg c := by unfold own_pl; rw [if_neg (by decide), if_neg (by decide), if_neg (by decide), if_pos rfl]
theorem own_pl4 (f : Nat → Int32) (p a b c d : Int32) : own_pl f p (4 : Int32) a b c d = own_up (own_up (own_up (own_up f p.toNatClampNeg a) (p + (1 : Int32)).toNatClampNeg b) (p + (2 : Int32)).toNatClampNeg c) (p + (3 : Int32)).toNatClampNeg d := by unfold own_pl; rw [if_neg (by decide), if_neg (by decide), if_neg (by decide), if_neg (by decide)]
def own_place (f : Nat → Int32) (p n w : Int32) : Nat → Int32 := own_pl f p n (own_by w) (own_by (own_sh w (8 : Int32))) (own_by (own_sh w (16 : Int32))) (own_by (own_sh w (24 : Int32)))
def own_w4 (a b c d : Int32) : Nat → Int32
  | 0 => a
  | 1 => b
  | 2 => c
  | _ => d
def own_wb (w : Int32) : Nat → Int32 := own_w4 (own_by w) (own_by (own_sh w (8 : Int32))) (own_by (own_sh w (16 : Int32))) (own_by (own_sh w (24 : Int32)))
def own_xs (z : Int64) : Int64 := z ^^^ ((z.toUInt64 >>> ((33 : Int32) &&& 0x3f).toInt64.toUInt64).toInt64)
def own_stp (h : Int64) (b : Int32) : Int64 := (h ^^^ (b &&& (255 : Int32)).toInt64) * (1099511628211 : Int64)
def own_rg (st : Int64 → Int32 → Int64) (f : Nat → Int32) : Nat → Nat → Int64 → Int64
  | _, 0, h => h
  | i, k + 1, h => own_rg st f (i + 1) k (st h (f i))
theorem own_r0 (st : Int64 → Int32 → Int64) (f : Nat → Int32) (i : Nat) (h : Int64) : own_rg st f i 0 h = h := rfl
theorem own_rs (st : Int64 → Int32 → Int64) (f : Nat → Int32) (i k : Nat) (h : Int64) : own_rg st f i (k + 1) h = own_rg st f (i + 1) k (st h (f i)) := rfl
def own_run (f : Nat → Int32) (i k : Nat) (h : Int64) : Int64 := own_rg own_stp f i k h
theorem own_run0 (f : Nat → Int32) (i : Nat) (h : Int64) : own_run f i 0 h = h := own_r0 _ _ _ _
theorem own_runs (f : Nat → Int32) (i k : Nat) (h : Int64) : own_run f i (k + 1) h = own_run f (i + 1) k (own_stp h (f i)) := own_rs _ _ _ _ _
def own_fin (h : Int64) : Int64 := own_xs (own_xs (own_xs h * (-49064778989728563 : Int64)) * (-4265267296055464877 : Int64))
def own_of (f : Nat → Int32) (p : Int32) (n : Nat) : Int64 := own_fin (own_run f p.toNatClampNeg n (-3750763034362895579 : Int64))
def own_n (p : Int32) : Int32 := (p &&& (7 : Int32)) - ((p &&& (7 : Int32)) / (5 : Int32)) * (5 : Int32)
def own_fa (p : Int32) : Int32 := own_sh p (3 : Int32) &&& (3 : Int32)
def own_fb (p : Int32) : Int32 := own_sh p (5 : Int32) &&& (3 : Int32)
def own_kk (p n : Int32) : Int32 := (p &&& (3 : Int32)) - ((p &&& (3 : Int32)) / n) * n
def own_dl (p : Int32) : Int32 := (1 : Int32) + ((own_sh p (2 : Int32) &&& (65535 : Int32)) - ((own_sh p (2 : Int32) &&& (65535 : Int32)) / (255 : Int32)) * (255 : Int32))
theorem own_n5 (p : Int32) : own_n p = (0 : Int32) ∨ own_n p = (1 : Int32) ∨ own_n p = (2 : Int32) ∨ own_n p = (3 : Int32) ∨ own_n p = (4 : Int32) := by
  have h : (own_n p).toInt = (p &&& 7).toInt % 5 := by
    unfold own_n
    rw [irem_eq_mod]
    exact (c_irem _ 5 5 (by decide)).1 (c_and p 7 (by decide)).1
  simp only [← Int32.toInt_inj, show (0 : Int32).toInt = 0 from rfl, show (1 : Int32).toInt = 1 from rfl, show (2 : Int32).toInt = 2 from rfl, show (3 : Int32).toInt = 3 from rfl, show (4 : Int32).toInt = 4 from rfl]
  omega
theorem own_nr (p : Int32) : 0 ≤ (own_n p).toInt ∧ (own_n p).toInt ≤ 4 := by
  rcases own_n5 p with h | h | h | h | h <;> rw [h] <;> decide
theorem own_and3 (x : Int32) : 0 ≤ (x &&& (3 : Int32)).toInt ∧ (x &&& (3 : Int32)).toInt ≤ 3 := c_and x 3 (by decide)
theorem own_far (p : Int32) : 0 ≤ (own_fa p).toInt ∧ (own_fa p).toInt ≤ 3 := own_and3 _
theorem own_fbr (p : Int32) : 0 ≤ (own_fb p).toInt ∧ (own_fb p).toInt ≤ 3 := own_and3 _
theorem own_kr (p n : Int32) (h0 : ¬ n = (0 : Int32)) (h : 0 ≤ n.toInt ∧ n.toInt ≤ 4) : 0 ≤ (own_kk p n).toInt ∧ (own_kk p n).toInt < n.toInt := by
  have hn : n.toInt ≠ 0 := fun e => h0 (Int32.toInt_inj.mp e)
  unfold own_kk
  rw [irem_eq_mod]
  have := (c_iremV (p &&& 3) n).1 (own_and3 p).1 (by omega)
  exact ⟨this.1, this.2.1⟩
theorem own_dr (p : Int32) : 1 ≤ (own_dl p).toInt ∧ (own_dl p).toInt ≤ 255 := by
  have h : ((own_sh p (2 : Int32) &&& (65535 : Int32)) - ((own_sh p (2 : Int32) &&& (65535 : Int32)) / (255 : Int32)) * (255 : Int32)).toInt = (own_sh p (2 : Int32) &&& (65535 : Int32)).toInt % 255 := by
    rw [irem_eq_mod]
    exact (c_irem _ 255 255 (by decide)).1 (c_and _ 65535 (by decide)).1
  unfold own_dl
  have h1 := c_iadd (1 : Int32) ((own_sh p (2 : Int32) &&& (65535 : Int32)) - ((own_sh p (2 : Int32) &&& (65535 : Int32)) / (255 : Int32)) * (255 : Int32))
  have h2 := rng32 ((1 : Int32) + ((own_sh p (2 : Int32) &&& (65535 : Int32)) - ((own_sh p (2 : Int32) &&& (65535 : Int32)) / (255 : Int32)) * (255 : Int32)))
  rw [show (1 : Int32).toInt = 1 from rfl] at h1
  omega
theorem own_addr (a b : Int32) (ha : 0 ≤ a.toInt ∧ a.toInt ≤ 4) (hb : 0 ≤ b.toInt ∧ b.toInt ≤ 4) : (a + b).toInt = a.toInt + b.toInt := by
  have h1 := c_iadd a b
  have h2 := rng32 (a + b)
  omega
theorem own_addn (a b : Int32) (ha : 0 ≤ a.toInt ∧ a.toInt ≤ 4) (hb : 0 ≤ b.toInt ∧ b.toInt ≤ 4) : (a + b).toNatClampNeg = a.toNatClampNeg + b.toNatClampNeg := by
  have := own_addr a b ha hb
  unfold Int32.toNatClampNeg
  omega
theorem own_ibk (a b : Int32) (ha : 0 ≤ a.toInt ∧ a.toInt ≤ 3) (hb : 0 ≤ b.toInt ∧ b.toInt ≤ 4) : ¬ (a + b) < 0 ∧ (a + b) < (8 : Int32) := by
  have := own_addr a b (by omega) hb
  exact own_inb _ (by omega)
theorem own_plget (f : Nat → Int32) (p n a b c d : Int32) (hp : p = (0 : Int32) ∨ p = (1 : Int32) ∨ p = (2 : Int32) ∨ p = (3 : Int32)) (hn : n = (0 : Int32) ∨ n = (1 : Int32) ∨ n = (2 : Int32) ∨ n = (3 : Int32) ∨ n = (4 : Int32)) (j : Nat) (h4 : j = 0 ∨ j = 1 ∨ j = 2 ∨ j = 3) (hj : j < n.toNatClampNeg) : own_pl f p n a b c d (p.toNatClampNeg + j) = own_w4 a b c d j := by
  rcases hn with rfl | rfl | rfl | rfl | rfl
  · exact absurd hj (by show ¬ j < 0; omega)
  · rw [own_pl1]; rcases hp with rfl | rfl | rfl | rfl <;> rcases h4 with rfl | rfl | rfl | rfl <;> first | (exact absurd hj (by decide)) | rfl
  · rw [own_pl2]; rcases hp with rfl | rfl | rfl | rfl <;> rcases h4 with rfl | rfl | rfl | rfl <;> first | (exact absurd hj (by decide)) | rfl
  · rw [own_pl3]; rcases hp with rfl | rfl | rfl | rfl <;> rcases h4 with rfl | rfl | rfl | rfl <;> first | (exact absurd hj (by decide)) | rfl
  · rw [own_pl4]; rcases hp with rfl | rfl | rfl | rfl <;> rcases h4 with rfl | rfl | rfl | rfl <;> first | (exact absurd hj (by decide)) | rfl
theorem own_wget (f : Nat → Int32) (p n w : Int32) (hp : 0 ≤ p.toInt ∧ p.toInt ≤ 3) (hn : n = (0 : Int32) ∨ n = (1 : Int32) ∨ n = (2 : Int32) ∨ n = (3 : Int32) ∨ n = (4 : Int32)) (j : Nat) (hj : j < n.toNatClampNeg) : own_place f p n w (p.toNatClampNeg + j) = own_wb w j := by
  have h4 : p = (0 : Int32) ∨ p = (1 : Int32) ∨ p = (2 : Int32) ∨ p = (3 : Int32) := by
    simp only [← Int32.toInt_inj, show (0 : Int32).toInt = 0 from rfl, show (1 : Int32).toInt = 1 from rfl, show (2 : Int32).toInt = 2 from rfl, show (3 : Int32).toInt = 3 from rfl]
    omega
  have hj4 : n.toNatClampNeg ≤ 4 := by rcases hn with rfl | rfl | rfl | rfl | rfl <;> decide
  unfold own_place own_wb
  exact own_plget f p n _ _ _ _ h4 hn j (by omega) hj
theorem own_runc (st : Int64 → Int32 → Int64) (f g : Nat → Int32) : ∀ (n i j : Nat) (h : Int64), (∀ k, k < n → f (i + k) = g (j + k)) → own_rg st f i n h = own_rg st g j n h := by
  intro n
  induction n with
  | zero => intro i j h q; rfl
  | succ n ih =>
    intro i j h q
    rw [own_rs, own_rs, show f i = g j from q 0 (by omega)]
    refine ih (i + 1) (j + 1) _ fun k hk => ?_
    have := q (k + 1) (by omega)
    rwa [show i + (k + 1) = i + 1 + k by omega, show j + (k + 1) = j + 1 + k by omega] at this
theorem own_runinj (st : Int64 → Int32 → Int64) (hst : ∀ a b c, st a c = st b c → a = b) (f : Nat → Int32) : ∀ (n i : Nat) (a b : Int64), own_rg st f i n a = own_rg st f i n b → a = b := by
  intro n
  induction n with
  | zero => intro i a b h; exact h
  | succ n ih =>
    intro i a b h
    rw [own_rs, own_rs] at h
    exact hst _ _ _ (ih _ _ _ h)
theorem own_runne (st : Int64 → Int32 → Int64) (hst : ∀ a b c, st a c = st b c → a = b) (hst2 : ∀ h a b, st h a = st h b → (a &&& (255 : Int32)) = (b &&& (255 : Int32))) (f g : Nat → Int32) : ∀ (n i k : Nat) (h : Int64), k < n → (∀ j, j < n → j ≠ k → f (i + j) = g (i + j)) → ¬ (f (i + k) &&& (255 : Int32)) = (g (i + k) &&& (255 : Int32)) → ¬ own_rg st f i n h = own_rg st g i n h := by
  intro n
  induction n with
  | zero => intro i k h hk; exact absurd hk (Nat.not_lt_zero _)
  | succ n ih =>
    intro i k h hk q d e
    rw [own_rs, own_rs] at e
    cases k with
    | zero =>
      rw [own_runc st f g n (i + 1) (i + 1) _ fun k hk => by
        have := q (k + 1) (by omega) (by omega)
        rwa [show i + (k + 1) = i + 1 + k by omega] at this] at e
      exact d (hst2 _ _ _ (own_runinj st hst g n (i + 1) _ _ e))
    | succ k =>
      rw [show f i = g i from q 0 (by omega) (by omega)] at e
      refine ih (i + 1) k _ (by omega) (fun j hj hne => ?_) ?_ e
      · have := q (j + 1) (by omega) (by omega)
        rwa [show i + (j + 1) = i + 1 + j by omega] at this
      · rwa [show i + (k + 1) = i + 1 + k by omega] at d
theorem own_mulinj (a b c d : Int64) (e : c * d = 1) (h : a * c = b * c) : a = b := by
  have : a * c * d = b * c * d := by rw [h]
  rwa [Int64.mul_assoc, Int64.mul_assoc, e, Int64.mul_one, Int64.mul_one] at this
theorem own_xorinj (a b c : Int64) (h : a ^^^ c = b ^^^ c) : a = b := by
  have : a ^^^ c ^^^ c = b ^^^ c ^^^ c := by rw [h]
  rwa [Int64.xor_assoc, Int64.xor_assoc, Int64.xor_self, Int64.xor_zero, Int64.xor_zero] at this
theorem own_stpinj (a b : Int64) (c : Int32) (h : own_stp a c = own_stp b c) : a = b := by
  unfold own_stp at h
  exact own_xorinj _ _ _ (own_mulinj _ _ (1099511628211 : Int64) (-3560570117845248645 : Int64) (by decide +kernel) h)
theorem own_stpinj2 (h : Int64) (a b : Int32) (e : own_stp h a = own_stp h b) : (a &&& (255 : Int32)) = (b &&& (255 : Int32)) := by
  unfold own_stp at e
  have e4 := own_mulinj _ _ (1099511628211 : Int64) (-3560570117845248645 : Int64) (by decide +kernel) e
  rw [Int64.xor_comm h, Int64.xor_comm h] at e4
  have e5 := own_xorinj _ _ _ e4
  apply Int32.toInt_inj.mp
  have := congrArg Int64.toInt e5
  rwa [Int32.toInt_toInt64, Int32.toInt_toInt64] at this
theorem own_bv33 (x : BitVec 64) : ((x ^^^ (x >>> 33)) ^^^ ((x ^^^ (x >>> 33)) >>> 33)) = x := by
  apply BitVec.eq_of_getLsbD_eq
  intro i hi
  have e : x.getLsbD (33 + (33 + i)) = false := BitVec.getLsbD_of_ge _ _ (by omega)
  simp only [BitVec.getLsbD_xor, BitVec.getLsbD_ushiftRight, e]
  cases x.getLsbD i <;> cases x.getLsbD (33 + i) <;> rfl
theorem own_sx (z : Int64) (k : Int32) (n : Nat) (h : ((k &&& 0x3f).toInt64.toUInt64.toBitVec % 64#64).toNat = n) : ((z.toUInt64 >>> (k &&& 0x3f).toInt64.toUInt64).toInt64).toBitVec = z.toBitVec >>> n := by
  show z.toBitVec >>> ((k &&& 0x3f).toInt64.toUInt64.toBitVec % 64#64).toNat = _
  rw [h]
theorem own_xsb (z : Int64) : (own_xs z).toBitVec = z.toBitVec ^^^ (z.toBitVec >>> 33) := by
  unfold own_xs
  rw [Int64.toBitVec_xor, own_sx z 33 33 (by decide)]
theorem own_xsinv (z : Int64) : own_xs (own_xs z) = z := by
  apply Int64.toBitVec_inj.mp
  rw [own_xsb, own_xsb]
  exact own_bv33 _
theorem own_xsinj (a b : Int64) (h : own_xs a = own_xs b) : a = b := by
  rw [← own_xsinv a, h, own_xsinv]
theorem own_fininj (a b : Int64) (h : own_fin a = own_fin b) : a = b := by
  unfold own_fin at h
  have h1 := own_xsinj _ _ h
  have h2 := own_mulinj _ _ (-4265267296055464877 : Int64) (-7154897129451604005 : Int64) (by decide +kernel) h1
  have h3 := own_xsinj _ _ h2
  have h4 := own_mulinj _ _ (-49064778989728563 : Int64) (5725274745694666757 : Int64) (by decide +kernel) h3
  exact own_xsinj _ _ h4
theorem own_same (f g : Nat → Int32) (s w : Int32) : own_of (own_place f (own_fa s) (own_n s) w) (own_fa s) (own_n s).toNatClampNeg = own_of (own_place g (own_fb s) (own_n s) w) (own_fb s) (own_n s).toNatClampNeg := by
  unfold own_of own_run
  rw [own_runc own_stp _ (own_place g (own_fb s) (own_n s) w) _ _ (own_fb s).toNatClampNeg]
  intro k hk
  rw [own_wget f _ _ w (own_far s) (own_n5 s) k hk, own_wget g _ _ w (own_fbr s) (own_n5 s) k hk]
theorem own_bydiff (b d : Int32) (hd : 1 ≤ d.toInt ∧ d.toInt ≤ 255) : ¬ (own_by (b + d) &&& (255 : Int32)) = (b &&& (255 : Int32)) := by
  intro e
  have h1 := c_mask (own_by (b + d)) 255 8 (by decide) (by decide)
  have h2 := c_mask b 255 8 (by decide) (by decide)
  have h3 := (c_i2b (b + d).toInt8.toInt32).1
  have h4 := (c_i2b (b + d)).1
  have h5 := c_iadd b d
  rw [e] at h1
  unfold own_by at h1
  simp only [show ((2 ^ 8 : Nat) : Int) = 256 from rfl] at h1 h2
  omega
theorem own_diff (f g : Nat → Int32) (s w ch : Int32) (h0 : ¬ own_n s = (0 : Int32)) : ¬ own_of (own_up (own_place f (own_fb s) (own_n s) w) (own_fb s + own_kk ch (own_n s)).toNatClampNeg (own_by (own_place f (own_fb s) (own_n s) w (own_fb s + own_kk ch (own_n s)).toNatClampNeg + own_dl ch))) (own_fb s) (own_n s).toNatClampNeg = own_of (own_place g (own_fb s) (own_n s) w) (own_fb s) (own_n s).toNatClampNeg := by
  have hk := own_kr ch (own_n s) h0 (own_nr s)
  have hn := own_nr s
  have hi := own_addn (own_fb s) (own_kk ch (own_n s)) (by have := own_fbr s; omega) (by omega)
  have hkn : (own_kk ch (own_n s)).toNatClampNeg < (own_n s).toNatClampNeg := by unfold Int32.toNatClampNeg; omega
  intro e
  unfold own_of own_run at e
  refine own_runne own_stp own_stpinj own_stpinj2 _ _ (own_n s).toNatClampNeg (own_fb s).toNatClampNeg (own_kk ch (own_n s)).toNatClampNeg _ hkn ?_ ?_ (own_fininj _ _ e)
  · intro j hj hne
    have : own_up (own_place f (own_fb s) (own_n s) w) (own_fb s + own_kk ch (own_n s)).toNatClampNeg (own_by (own_place f (own_fb s) (own_n s) w (own_fb s + own_kk ch (own_n s)).toNatClampNeg + own_dl ch)) ((own_fb s).toNatClampNeg + j) = own_place f (own_fb s) (own_n s) w ((own_fb s).toNatClampNeg + j) := if_neg (by omega)
    rw [this, own_wget f _ _ w (own_fbr s) (own_n5 s) j hj, own_wget g _ _ w (own_fbr s) (own_n5 s) j hj]
  · have : own_up (own_place f (own_fb s) (own_n s) w) (own_fb s + own_kk ch (own_n s)).toNatClampNeg (own_by (own_place f (own_fb s) (own_n s) w (own_fb s + own_kk ch (own_n s)).toNatClampNeg + own_dl ch)) ((own_fb s).toNatClampNeg + (own_kk ch (own_n s)).toNatClampNeg) = own_by (own_place f (own_fb s) (own_n s) w (own_fb s + own_kk ch (own_n s)).toNatClampNeg + own_dl ch) := if_pos hi.symm
    rw [this, hi, own_wget f _ _ w (own_fbr s) (own_n5 s) _ hkn, own_wget g _ _ w (own_fbr s) (own_n5 s) _ hkn]
    exact own_bydiff _ _ (own_dr ch)
theorem d1_0 : decode method_3_code 0 = .ok (.bipush 8, 2) := by decide +kernel
theorem d1_2 : decode method_3_code 2 = .ok (.newarray .byte, 2) := by decide +kernel
theorem d1_4 : decode method_3_code 4 = .ok (.astore_n 2, 1) := by decide +kernel
theorem d1_5 : decode method_3_code 5 = .ok (.aload_n 2, 1) := by decide +kernel
theorem d1_6 : decode method_3_code 6 = .ok (.iconst 0, 1) := by decide +kernel
theorem d1_7 : decode method_3_code 7 = .ok (.lload_n 0, 1) := by decide +kernel
theorem d1_8 : decode method_3_code 8 = .ok (.l2i, 1) := by decide +kernel
theorem d1_9 : decode method_3_code 9 = .ok (.i2b, 1) := by decide +kernel
theorem d1_10 : decode method_3_code 10 = .ok (.bastore, 1) := by decide +kernel
theorem d1_11 : decode method_3_code 11 = .ok (.aload_n 2, 1) := by decide +kernel
theorem d1_12 : decode method_3_code 12 = .ok (.iconst 1, 1) := by decide +kernel
theorem d1_13 : decode method_3_code 13 = .ok (.lload_n 0, 1) := by decide +kernel
theorem d1_14 : decode method_3_code 14 = .ok (.bipush 8, 2) := by decide +kernel
theorem d1_16 : decode method_3_code 16 = .ok (.lushr, 1) := by decide +kernel
theorem d1_17 : decode method_3_code 17 = .ok (.l2i, 1) := by decide +kernel
theorem d1_18 : decode method_3_code 18 = .ok (.i2b, 1) := by decide +kernel
theorem d1_19 : decode method_3_code 19 = .ok (.bastore, 1) := by decide +kernel
theorem d1_20 : decode method_3_code 20 = .ok (.aload_n 2, 1) := by decide +kernel
theorem d1_21 : decode method_3_code 21 = .ok (.iconst 2, 1) := by decide +kernel
theorem d1_22 : decode method_3_code 22 = .ok (.lload_n 0, 1) := by decide +kernel
theorem d1_23 : decode method_3_code 23 = .ok (.bipush 16, 2) := by decide +kernel
theorem d1_25 : decode method_3_code 25 = .ok (.lushr, 1) := by decide +kernel
theorem d1_26 : decode method_3_code 26 = .ok (.l2i, 1) := by decide +kernel
theorem d1_27 : decode method_3_code 27 = .ok (.i2b, 1) := by decide +kernel
theorem d1_28 : decode method_3_code 28 = .ok (.bastore, 1) := by decide +kernel
theorem d1_29 : decode method_3_code 29 = .ok (.aload_n 2, 1) := by decide +kernel
theorem d1_30 : decode method_3_code 30 = .ok (.iconst 3, 1) := by decide +kernel
theorem d1_31 : decode method_3_code 31 = .ok (.lload_n 0, 1) := by decide +kernel
theorem d1_32 : decode method_3_code 32 = .ok (.bipush 24, 2) := by decide +kernel
theorem d1_34 : decode method_3_code 34 = .ok (.lushr, 1) := by decide +kernel
theorem d1_35 : decode method_3_code 35 = .ok (.l2i, 1) := by decide +kernel
theorem d1_36 : decode method_3_code 36 = .ok (.i2b, 1) := by decide +kernel
theorem d1_37 : decode method_3_code 37 = .ok (.bastore, 1) := by decide +kernel
theorem d1_38 : decode method_3_code 38 = .ok (.aload_n 2, 1) := by decide +kernel
theorem d1_39 : decode method_3_code 39 = .ok (.iconst 4, 1) := by decide +kernel
theorem d1_40 : decode method_3_code 40 = .ok (.lload_n 0, 1) := by decide +kernel
theorem d1_41 : decode method_3_code 41 = .ok (.bipush 32, 2) := by decide +kernel
theorem d1_43 : decode method_3_code 43 = .ok (.lushr, 1) := by decide +kernel
theorem d1_44 : decode method_3_code 44 = .ok (.l2i, 1) := by decide +kernel
theorem d1_45 : decode method_3_code 45 = .ok (.i2b, 1) := by decide +kernel
theorem d1_46 : decode method_3_code 46 = .ok (.bastore, 1) := by decide +kernel
theorem d1_47 : decode method_3_code 47 = .ok (.aload_n 2, 1) := by decide +kernel
theorem d1_48 : decode method_3_code 48 = .ok (.iconst 5, 1) := by decide +kernel
theorem d1_49 : decode method_3_code 49 = .ok (.lload_n 0, 1) := by decide +kernel
theorem d1_50 : decode method_3_code 50 = .ok (.bipush 40, 2) := by decide +kernel
theorem d1_52 : decode method_3_code 52 = .ok (.lushr, 1) := by decide +kernel
theorem d1_53 : decode method_3_code 53 = .ok (.l2i, 1) := by decide +kernel
theorem d1_54 : decode method_3_code 54 = .ok (.i2b, 1) := by decide +kernel
theorem d1_55 : decode method_3_code 55 = .ok (.bastore, 1) := by decide +kernel
theorem d1_56 : decode method_3_code 56 = .ok (.aload_n 2, 1) := by decide +kernel
theorem d1_57 : decode method_3_code 57 = .ok (.bipush 6, 2) := by decide +kernel
theorem d1_59 : decode method_3_code 59 = .ok (.lload_n 0, 1) := by decide +kernel
theorem d1_60 : decode method_3_code 60 = .ok (.bipush 48, 2) := by decide +kernel
theorem d1_62 : decode method_3_code 62 = .ok (.lushr, 1) := by decide +kernel
theorem d1_63 : decode method_3_code 63 = .ok (.l2i, 1) := by decide +kernel
theorem d1_64 : decode method_3_code 64 = .ok (.i2b, 1) := by decide +kernel
theorem d1_65 : decode method_3_code 65 = .ok (.bastore, 1) := by decide +kernel
theorem d1_66 : decode method_3_code 66 = .ok (.aload_n 2, 1) := by decide +kernel
theorem d1_67 : decode method_3_code 67 = .ok (.bipush 7, 2) := by decide +kernel
theorem d1_69 : decode method_3_code 69 = .ok (.lload_n 0, 1) := by decide +kernel
theorem d1_70 : decode method_3_code 70 = .ok (.bipush 56, 2) := by decide +kernel
theorem d1_72 : decode method_3_code 72 = .ok (.lushr, 1) := by decide +kernel
theorem d1_73 : decode method_3_code 73 = .ok (.l2i, 1) := by decide +kernel
theorem d1_74 : decode method_3_code 74 = .ok (.i2b, 1) := by decide +kernel
theorem d1_75 : decode method_3_code 75 = .ok (.bastore, 1) := by decide +kernel
theorem d1_76 : decode method_3_code 76 = .ok (.aload_n 2, 1) := by decide +kernel
theorem d1_77 : decode method_3_code 77 = .ok (.areturn, 1) := by decide +kernel
theorem pn_ByteHashOfPinLaw : plainName "com/example/kosha/kosha/ByteHashOfPinLaw" = true := by first | (simp [plainName, overriddenIn]; done) | decide +kernel
theorem ef_1 (m : MethodId) (x0 : Int64) : entryFrame m #[(.long x0)] 3 = mkF m 0 #[.val (.long x0), .second, .unset] [] := by first | (simp [entryFrame, mkF, argsToLocals, Value.category]; done) | rfl
def Q1 (Z : State) (q1 : Int64) (h0 : Heap) (n0 : Nat) (v : Option Value) (h : Heap) (L : List Loc) : Prop := v = some (.ref h0.size) ∧ Fr n0 L ∧ Keep h0 h [] ∧ ∃ (k : ClassId) (f : Nat → Int32), Arv Z h h0.size k .byte (8 : Int32) (own_vs f) (.int (0 : Int32))
set_option maxRecDepth 65536 in
set_option maxHeartbeats 40000000 in
theorem rm1 (l : Launch) (Z : State) (a0 : Array Value) (hw : ∀ d ∈ tables_1, d.before a0 Z = true) (ws : List Jvm.Cond) (q1 : Int64) (h0 : Heap) (n0 : Nat) (Z0 : n0 ≤ h0.size) :
    MetFree l (⟨"com/example/kosha/kosha/ByteHashOfPinLaw", "fill", "(J)[B"⟩ : MethodName) (head1 (Jvm.Cond.code (⟨"com/example/kosha/kosha/ByteHashOfPinLaw", "fill", "(J)[B"⟩ : MethodName) method_3_code 3 (some (.array .byte)) :: ws) ({ frames := 0, cells := 1, slots := 8, locals := 0 } : Room)) (fun a U => a = #[(.long q1)] ∧ Z.Warmed39 U.vm ∧ U.heap = h0) (fun _ _ _ _ _ => True) (fun _ U o U' => ∃ v L, o = .returned v ∧ Q1 Z q1 h0 n0 v U'.heap L ∧ FrameEnd U o U' L ({ frames := 0, cells := 1, slots := 8, locals := 0 } : Room).cells ({ frames := 0, cells := 1, slots := 8, locals := 0 } : Room).slots) := by
  refine MetFree.of_bodySF (plainFor_of_name pn_ByteHashOfPinLaw) hisR ?_
  intro p e s m args below meth c s₁ Bd hml0 hP hK
  obtain ⟨rfl, hZ, hh⟩ := hP
  have hx := Bd.exec
  have hby := Bd.bytes
  have hml : c.maxLocals = 3 := hml0
  have hown : s.vm.findClass "com/example/kosha/kosha/ByteHashOfPinLaw" = some m.cls := findClass_of_methodNamed Bd.named
  have hnm := (name_of_methodNamed Bd.named Bd.method).1
  have X0 : Stand p l e ({ frames := 0, cells := 1, slots := 8, locals := 0 } : Room) s m #[(.long q1)] below meth c s₁ [] 0 0 := Stand.of_body Bd
  have e0 : s₁.heap = h0 := by rw [← hh, Bd.state]; rfl
  have N0 := Fr.nil n0
  refine Gd.out (Gd.st (fun t k => castTop (ef_1 m q1) k) ?_)
  show Gd p.tables e below _ (s₁.setTop (mkF m 0 #[.val (.long q1), .second, .unset] []))
  refine Gd.st (fun _ k => XS.bipush X0.here hx rfl (hb hby d1_0) k) ?_
  show Gd p.tables e below _ (s₁.setTop (mkF m 2 #[.val (.long q1), .second, .unset] [(.int (8 : Int32))]))
  obtain ⟨T1, h1, k1, X1, e1, E1, A1, st1⟩ := newP X0 hx hZ (hw _ (List.mem_of_getElem? (i := 4) rfl)) e0 (g := (mkF m 2 #[.val (.long q1), .second, .unset] [(.int (8 : Int32))])) rfl (hb hby d1_2) rfl (by decide) (cap := 8) (by decide) (by decide) (by decide) (by decide)
  obtain ⟨b1, g1⟩ : ∃ z, z = h0.size := ⟨_, rfl⟩
  rw [← g1] at A1 st1
  refine Gd.st st1 ?_
  have g_b1 : n0 ≤ b1 := Nat.le_trans Z0 (Nat.le_of_eq g1.symm)
  have sz_b1 : h0.size ≤ b1 := Nat.le_trans (Keep.refl h0 []).1 (Nat.le_of_eq g1.symm)
  have Z2 : n0 ≤ h1.size := Nat.le_trans Z0 E1.1
  have K3 : Keep h0 h1 [] := (Keep.refl h0 []).ext E1
  have V_b1 : Arv Z h1 b1 k1 .byte (8 : Int32) [(.int (0 : Int32)), (.int (0 : Int32)), (.int (0 : Int32)), (.int (0 : Int32)), (.int (0 : Int32)), (.int (0 : Int32)), (.int (0 : Int32)), (.int (0 : Int32))] (.int (0 : Int32)) := (Arv.new A1 (by decide)).pad (pad_rep [] (.int (0 : Int32)) 8)
  show Gd p.tables e below _ (T1.setTop (mkF m 4 #[.val (.long q1), .second, .unset] [(.ref b1)]))
  refine Gd.st (fun _ k => XS.astoreN X1.here hx rfl (hb hby d1_4) rfl rfl (l' := #[.val (.long q1), .second, .val (.ref b1)]) rfl k) ?_
  show Gd p.tables e below _ (T1.setTop (mkF m 5 #[.val (.long q1), .second, .val (.ref b1)] []))
  refine Gd.st (fun _ k => XS.aloadN X1.here hx rfl (hb hby d1_5) rfl rfl k) ?_
  show Gd p.tables e below _ (T1.setTop (mkF m 6 #[.val (.long q1), .second, .val (.ref b1)] [(.ref b1)]))
  refine Gd.st (fun _ k => XS.iconst X1.here hx rfl (hb hby d1_6) k) ?_
  show Gd p.tables e below _ (T1.setTop (mkF m 7 #[.val (.long q1), .second, .val (.ref b1)] [(.int (0 : Int32)), (.ref b1)]))
  refine Gd.st (fun _ k => XS.lloadN X1.here hx rfl (hb hby d1_7) rfl k) ?_
  show Gd p.tables e below _ (T1.setTop (mkF m 8 #[.val (.long q1), .second, .val (.ref b1)] [(.long q1), (.int (0 : Int32)), (.ref b1)]))
  refine Gd.st (fun _ k => XS.l2i X1.here hx rfl (hb hby d1_8) rfl k) ?_
  show Gd p.tables e below _ (T1.setTop (mkF m 9 #[.val (.long q1), .second, .val (.ref b1)] [(.int (q1.toInt32)), (.int (0 : Int32)), (.ref b1)]))
  refine Gd.st (fun _ k => XS.i2b X1.here hx rfl (hb hby d1_9) rfl k) ?_
  show Gd p.tables e below _ (T1.setTop (mkF m 10 #[.val (.long q1), .second, .val (.ref b1)] [(.int ((q1.toInt32).toInt8.toInt32)), (.int (0 : Int32)), (.ref b1)]))
  obtain ⟨cl_4, Ar_4, q_4, S_4, N_4, H_4, G_4⟩ := id V_b1
  have hin_4 : ¬ ((0 : Int32) < 0 ∨ cl_4.slots.size ≤ ((0 : Int32)).toNatClampNeg) := inb_of S_4 ⟨by decide, by decide⟩
  obtain ⟨T4, h4, X4, e4, W4, st4⟩ := stB X1 hx hZ e1 Ar_4 (j := (0 : Int32)) hin_4 (g := (mkF m 10 #[.val (.long q1), .second, .val (.ref b1)] [(.int ((q1.toInt32).toInt8.toInt32)), (.int (0 : Int32)), (.ref b1)])) rfl rfl (hb hby d1_10)
  refine Gd.st st4 ?_
  have Va_4 : Arv Z h4 b1 k1 .byte (8 : Int32) [(.int (((q1.toInt32).toInt8.toInt32)).toInt8.toInt32), (.int (0 : Int32)), (.int (0 : Int32)), (.int (0 : Int32)), (.int (0 : Int32)), (.int (0 : Int32)), (.int (0 : Int32)), (.int (0 : Int32))] (.int (0 : Int32)) := Arv.set Ar_4 q_4 S_4 N_4 H_4 G_4 (fits_nar_byte _) W4 0 rfl (Nat.le_of_ble_eq_true rfl)
  have N4 := Fr.snoc X4 N0 g_b1
  have Z5 : n0 ≤ h4.size := Nat.le_trans Z2 (Keep.of_wr W4).1
  have K6 : Keep h0 h4 [] := K3.wr W4 (Or.inr sz_b1)
  show Gd p.tables e below _ (T4.setTop (mkF m 11 #[.val (.long q1), .second, .val (.ref b1)] []))
  refine Gd.st (fun _ k => XS.aloadN X4.here hx rfl (hb hby d1_11) rfl rfl k) ?_
  show Gd p.tables e below _ (T4.setTop (mkF m 12 #[.val (.long q1), .second, .val (.ref b1)] [(.ref b1)]))
  refine Gd.st (fun _ k => XS.iconst X4.here hx rfl (hb hby d1_12) k) ?_
  show Gd p.tables e below _ (T4.setTop (mkF m 13 #[.val (.long q1), .second, .val (.ref b1)] [(.int (1 : Int32)), (.ref b1)]))
  refine Gd.st (fun _ k => XS.lloadN X4.here hx rfl (hb hby d1_13) rfl k) ?_
  show Gd p.tables e below _ (T4.setTop (mkF m 14 #[.val (.long q1), .second, .val (.ref b1)] [(.long q1), (.int (1 : Int32)), (.ref b1)]))
  refine Gd.st (fun _ k => XS.bipush X4.here hx rfl (hb hby d1_14) k) ?_
  show Gd p.tables e below _ (T4.setTop (mkF m 16 #[.val (.long q1), .second, .val (.ref b1)] [(.int (8 : Int32)), (.long q1), (.int (1 : Int32)), (.ref b1)]))
  refine Gd.st (fun _ k => XS.lushr X4.here hx rfl (hb hby d1_16) rfl k) ?_
  show Gd p.tables e below _ (T4.setTop (mkF m 17 #[.val (.long q1), .second, .val (.ref b1)] [(.long ((q1.toUInt64 >>> ((8 : Int32) &&& 0x3f).toInt64.toUInt64).toInt64)), (.int (1 : Int32)), (.ref b1)]))
  refine Gd.st (fun _ k => XS.l2i X4.here hx rfl (hb hby d1_17) rfl k) ?_
  show Gd p.tables e below _ (T4.setTop (mkF m 18 #[.val (.long q1), .second, .val (.ref b1)] [(.int (((q1.toUInt64 >>> ((8 : Int32) &&& 0x3f).toInt64.toUInt64).toInt64).toInt32)), (.int (1 : Int32)), (.ref b1)]))
  refine Gd.st (fun _ k => XS.i2b X4.here hx rfl (hb hby d1_18) rfl k) ?_
  show Gd p.tables e below _ (T4.setTop (mkF m 19 #[.val (.long q1), .second, .val (.ref b1)] [(.int ((((q1.toUInt64 >>> ((8 : Int32) &&& 0x3f).toInt64.toUInt64).toInt64).toInt32).toInt8.toInt32)), (.int (1 : Int32)), (.ref b1)]))
  obtain ⟨cl_7, Ar_7, q_7, S_7, N_7, H_7, G_7⟩ := id Va_4
  have hin_7 : ¬ ((1 : Int32) < 0 ∨ cl_7.slots.size ≤ ((1 : Int32)).toNatClampNeg) := inb_of S_7 ⟨by decide, by decide⟩
  obtain ⟨T7, h7, X7, e7, W7, st7⟩ := stB X4 hx hZ e4 Ar_7 (j := (1 : Int32)) hin_7 (g := (mkF m 19 #[.val (.long q1), .second, .val (.ref b1)] [(.int ((((q1.toUInt64 >>> ((8 : Int32) &&& 0x3f).toInt64.toUInt64).toInt64).toInt32).toInt8.toInt32)), (.int (1 : Int32)), (.ref b1)])) rfl rfl (hb hby d1_19)
  refine Gd.st st7 ?_
  have Va_7 : Arv Z h7 b1 k1 .byte (8 : Int32) [(.int (((q1.toInt32).toInt8.toInt32)).toInt8.toInt32), (.int (((((q1.toUInt64 >>> ((8 : Int32) &&& 0x3f).toInt64.toUInt64).toInt64).toInt32).toInt8.toInt32)).toInt8.toInt32), (.int (0 : Int32)), (.int (0 : Int32)), (.int (0 : Int32)), (.int (0 : Int32)), (.int (0 : Int32)), (.int (0 : Int32))] (.int (0 : Int32)) := Arv.set Ar_7 q_7 S_7 N_7 H_7 G_7 (fits_nar_byte _) W7 1 rfl (Nat.le_of_ble_eq_true rfl)
  have N7 := Fr.snoc X7 N4 g_b1
  have Z8 : n0 ≤ h7.size := Nat.le_trans Z5 (Keep.of_wr W7).1
  have K9 : Keep h0 h7 [] := K6.wr W7 (Or.inr sz_b1)
  show Gd p.tables e below _ (T7.setTop (mkF m 20 #[.val (.long q1), .second, .val (.ref b1)] []))
  refine Gd.st (fun _ k => XS.aloadN X7.here hx rfl (hb hby d1_20) rfl rfl k) ?_
  show Gd p.tables e below _ (T7.setTop (mkF m 21 #[.val (.long q1), .second, .val (.ref b1)] [(.ref b1)]))
  refine Gd.st (fun _ k => XS.iconst X7.here hx rfl (hb hby d1_21) k) ?_
  show Gd p.tables e below _ (T7.setTop (mkF m 22 #[.val (.long q1), .second, .val (.ref b1)] [(.int (2 : Int32)), (.ref b1)]))
  refine Gd.st (fun _ k => XS.lloadN X7.here hx rfl (hb hby d1_22) rfl k) ?_
  show Gd p.tables e below _ (T7.setTop (mkF m 23 #[.val (.long q1), .second, .val (.ref b1)] [(.long q1), (.int (2 : Int32)), (.ref b1)]))
  refine Gd.st (fun _ k => XS.bipush X7.here hx rfl (hb hby d1_23) k) ?_
  show Gd p.tables e below _ (T7.setTop (mkF m 25 #[.val (.long q1), .second, .val (.ref b1)] [(.int (16 : Int32)), (.long q1), (.int (2 : Int32)), (.ref b1)]))
  refine Gd.st (fun _ k => XS.lushr X7.here hx rfl (hb hby d1_25) rfl k) ?_
  show Gd p.tables e below _ (T7.setTop (mkF m 26 #[.val (.long q1), .second, .val (.ref b1)] [(.long ((q1.toUInt64 >>> ((16 : Int32) &&& 0x3f).toInt64.toUInt64).toInt64)), (.int (2 : Int32)), (.ref b1)]))
  refine Gd.st (fun _ k => XS.l2i X7.here hx rfl (hb hby d1_26) rfl k) ?_
  show Gd p.tables e below _ (T7.setTop (mkF m 27 #[.val (.long q1), .second, .val (.ref b1)] [(.int (((q1.toUInt64 >>> ((16 : Int32) &&& 0x3f).toInt64.toUInt64).toInt64).toInt32)), (.int (2 : Int32)), (.ref b1)]))
  refine Gd.st (fun _ k => XS.i2b X7.here hx rfl (hb hby d1_27) rfl k) ?_
  show Gd p.tables e below _ (T7.setTop (mkF m 28 #[.val (.long q1), .second, .val (.ref b1)] [(.int ((((q1.toUInt64 >>> ((16 : Int32) &&& 0x3f).toInt64.toUInt64).toInt64).toInt32).toInt8.toInt32)), (.int (2 : Int32)), (.ref b1)]))
  obtain ⟨cl_10, Ar_10, q_10, S_10, N_10, H_10, G_10⟩ := id Va_7
  have hin_10 : ¬ ((2 : Int32) < 0 ∨ cl_10.slots.size ≤ ((2 : Int32)).toNatClampNeg) := inb_of S_10 ⟨by decide, by decide⟩
  obtain ⟨T10, h10, X10, e10, W10, st10⟩ := stB X7 hx hZ e7 Ar_10 (j := (2 : Int32)) hin_10 (g := (mkF m 28 #[.val (.long q1), .second, .val (.ref b1)] [(.int ((((q1.toUInt64 >>> ((16 : Int32) &&& 0x3f).toInt64.toUInt64).toInt64).toInt32).toInt8.toInt32)), (.int (2 : Int32)), (.ref b1)])) rfl rfl (hb hby d1_28)
  refine Gd.st st10 ?_
  have Va_10 : Arv Z h10 b1 k1 .byte (8 : Int32) [(.int (((q1.toInt32).toInt8.toInt32)).toInt8.toInt32), (.int (((((q1.toUInt64 >>> ((8 : Int32) &&& 0x3f).toInt64.toUInt64).toInt64).toInt32).toInt8.toInt32)).toInt8.toInt32), (.int (((((q1.toUInt64 >>> ((16 : Int32) &&& 0x3f).toInt64.toUInt64).toInt64).toInt32).toInt8.toInt32)).toInt8.toInt32), (.int (0 : Int32)), (.int (0 : Int32)), (.int (0 : Int32)), (.int (0 : Int32)), (.int (0 : Int32))] (.int (0 : Int32)) := Arv.set Ar_10 q_10 S_10 N_10 H_10 G_10 (fits_nar_byte _) W10 2 rfl (Nat.le_of_ble_eq_true rfl)
  have N10 := Fr.snoc X10 N7 g_b1
  have Z11 : n0 ≤ h10.size := Nat.le_trans Z8 (Keep.of_wr W10).1
  have K12 : Keep h0 h10 [] := K9.wr W10 (Or.inr sz_b1)
  show Gd p.tables e below _ (T10.setTop (mkF m 29 #[.val (.long q1), .second, .val (.ref b1)] []))
  refine Gd.st (fun _ k => XS.aloadN X10.here hx rfl (hb hby d1_29) rfl rfl k) ?_
  show Gd p.tables e below _ (T10.setTop (mkF m 30 #[.val (.long q1), .second, .val (.ref b1)] [(.ref b1)]))
  refine Gd.st (fun _ k => XS.iconst X10.here hx rfl (hb hby d1_30) k) ?_
  show Gd p.tables e below _ (T10.setTop (mkF m 31 #[.val (.long q1), .second, .val (.ref b1)] [(.int (3 : Int32)), (.ref b1)]))
  refine Gd.st (fun _ k => XS.lloadN X10.here hx rfl (hb hby d1_31) rfl k) ?_
  show Gd p.tables e below _ (T10.setTop (mkF m 32 #[.val (.long q1), .second, .val (.ref b1)] [(.long q1), (.int (3 : Int32)), (.ref b1)]))
  refine Gd.st (fun _ k => XS.bipush X10.here hx rfl (hb hby d1_32) k) ?_
  show Gd p.tables e below _ (T10.setTop (mkF m 34 #[.val (.long q1), .second, .val (.ref b1)] [(.int (24 : Int32)), (.long q1), (.int (3 : Int32)), (.ref b1)]))
  refine Gd.st (fun _ k => XS.lushr X10.here hx rfl (hb hby d1_34) rfl k) ?_
  show Gd p.tables e below _ (T10.setTop (mkF m 35 #[.val (.long q1), .second, .val (.ref b1)] [(.long ((q1.toUInt64 >>> ((24 : Int32) &&& 0x3f).toInt64.toUInt64).toInt64)), (.int (3 : Int32)), (.ref b1)]))
  refine Gd.st (fun _ k => XS.l2i X10.here hx rfl (hb hby d1_35) rfl k) ?_
  show Gd p.tables e below _ (T10.setTop (mkF m 36 #[.val (.long q1), .second, .val (.ref b1)] [(.int (((q1.toUInt64 >>> ((24 : Int32) &&& 0x3f).toInt64.toUInt64).toInt64).toInt32)), (.int (3 : Int32)), (.ref b1)]))
  refine Gd.st (fun _ k => XS.i2b X10.here hx rfl (hb hby d1_36) rfl k) ?_
  show Gd p.tables e below _ (T10.setTop (mkF m 37 #[.val (.long q1), .second, .val (.ref b1)] [(.int ((((q1.toUInt64 >>> ((24 : Int32) &&& 0x3f).toInt64.toUInt64).toInt64).toInt32).toInt8.toInt32)), (.int (3 : Int32)), (.ref b1)]))
  obtain ⟨cl_13, Ar_13, q_13, S_13, N_13, H_13, G_13⟩ := id Va_10
  have hin_13 : ¬ ((3 : Int32) < 0 ∨ cl_13.slots.size ≤ ((3 : Int32)).toNatClampNeg) := inb_of S_13 ⟨by decide, by decide⟩
  obtain ⟨T13, h13, X13, e13, W13, st13⟩ := stB X10 hx hZ e10 Ar_13 (j := (3 : Int32)) hin_13 (g := (mkF m 37 #[.val (.long q1), .second, .val (.ref b1)] [(.int ((((q1.toUInt64 >>> ((24 : Int32) &&& 0x3f).toInt64.toUInt64).toInt64).toInt32).toInt8.toInt32)), (.int (3 : Int32)), (.ref b1)])) rfl rfl (hb hby d1_37)
  refine Gd.st st13 ?_
  have Va_13 : Arv Z h13 b1 k1 .byte (8 : Int32) [(.int (((q1.toInt32).toInt8.toInt32)).toInt8.toInt32), (.int (((((q1.toUInt64 >>> ((8 : Int32) &&& 0x3f).toInt64.toUInt64).toInt64).toInt32).toInt8.toInt32)).toInt8.toInt32), (.int (((((q1.toUInt64 >>> ((16 : Int32) &&& 0x3f).toInt64.toUInt64).toInt64).toInt32).toInt8.toInt32)).toInt8.toInt32), (.int (((((q1.toUInt64 >>> ((24 : Int32) &&& 0x3f).toInt64.toUInt64).toInt64).toInt32).toInt8.toInt32)).toInt8.toInt32), (.int (0 : Int32)), (.int (0 : Int32)), (.int (0 : Int32)), (.int (0 : Int32))] (.int (0 : Int32)) := Arv.set Ar_13 q_13 S_13 N_13 H_13 G_13 (fits_nar_byte _) W13 3 rfl (Nat.le_of_ble_eq_true rfl)
  have N13 := Fr.snoc X13 N10 g_b1
  have Z14 : n0 ≤ h13.size := Nat.le_trans Z11 (Keep.of_wr W13).1
  have K15 : Keep h0 h13 [] := K12.wr W13 (Or.inr sz_b1)
  show Gd p.tables e below _ (T13.setTop (mkF m 38 #[.val (.long q1), .second, .val (.ref b1)] []))
  refine Gd.st (fun _ k => XS.aloadN X13.here hx rfl (hb hby d1_38) rfl rfl k) ?_
  show Gd p.tables e below _ (T13.setTop (mkF m 39 #[.val (.long q1), .second, .val (.ref b1)] [(.ref b1)]))
  refine Gd.st (fun _ k => XS.iconst X13.here hx rfl (hb hby d1_39) k) ?_
  show Gd p.tables e below _ (T13.setTop (mkF m 40 #[.val (.long q1), .second, .val (.ref b1)] [(.int (4 : Int32)), (.ref b1)]))
  refine Gd.st (fun _ k => XS.lloadN X13.here hx rfl (hb hby d1_40) rfl k) ?_
  show Gd p.tables e below _ (T13.setTop (mkF m 41 #[.val (.long q1), .second, .val (.ref b1)] [(.long q1), (.int (4 : Int32)), (.ref b1)]))
  refine Gd.st (fun _ k => XS.bipush X13.here hx rfl (hb hby d1_41) k) ?_
  show Gd p.tables e below _ (T13.setTop (mkF m 43 #[.val (.long q1), .second, .val (.ref b1)] [(.int (32 : Int32)), (.long q1), (.int (4 : Int32)), (.ref b1)]))
  refine Gd.st (fun _ k => XS.lushr X13.here hx rfl (hb hby d1_43) rfl k) ?_
  show Gd p.tables e below _ (T13.setTop (mkF m 44 #[.val (.long q1), .second, .val (.ref b1)] [(.long ((q1.toUInt64 >>> ((32 : Int32) &&& 0x3f).toInt64.toUInt64).toInt64)), (.int (4 : Int32)), (.ref b1)]))
  refine Gd.st (fun _ k => XS.l2i X13.here hx rfl (hb hby d1_44) rfl k) ?_
  show Gd p.tables e below _ (T13.setTop (mkF m 45 #[.val (.long q1), .second, .val (.ref b1)] [(.int (((q1.toUInt64 >>> ((32 : Int32) &&& 0x3f).toInt64.toUInt64).toInt64).toInt32)), (.int (4 : Int32)), (.ref b1)]))
  refine Gd.st (fun _ k => XS.i2b X13.here hx rfl (hb hby d1_45) rfl k) ?_
  show Gd p.tables e below _ (T13.setTop (mkF m 46 #[.val (.long q1), .second, .val (.ref b1)] [(.int ((((q1.toUInt64 >>> ((32 : Int32) &&& 0x3f).toInt64.toUInt64).toInt64).toInt32).toInt8.toInt32)), (.int (4 : Int32)), (.ref b1)]))
  obtain ⟨cl_16, Ar_16, q_16, S_16, N_16, H_16, G_16⟩ := id Va_13
  have hin_16 : ¬ ((4 : Int32) < 0 ∨ cl_16.slots.size ≤ ((4 : Int32)).toNatClampNeg) := inb_of S_16 ⟨by decide, by decide⟩
  obtain ⟨T16, h16, X16, e16, W16, st16⟩ := stB X13 hx hZ e13 Ar_16 (j := (4 : Int32)) hin_16 (g := (mkF m 46 #[.val (.long q1), .second, .val (.ref b1)] [(.int ((((q1.toUInt64 >>> ((32 : Int32) &&& 0x3f).toInt64.toUInt64).toInt64).toInt32).toInt8.toInt32)), (.int (4 : Int32)), (.ref b1)])) rfl rfl (hb hby d1_46)
  refine Gd.st st16 ?_
  have Va_16 : Arv Z h16 b1 k1 .byte (8 : Int32) [(.int (((q1.toInt32).toInt8.toInt32)).toInt8.toInt32), (.int (((((q1.toUInt64 >>> ((8 : Int32) &&& 0x3f).toInt64.toUInt64).toInt64).toInt32).toInt8.toInt32)).toInt8.toInt32), (.int (((((q1.toUInt64 >>> ((16 : Int32) &&& 0x3f).toInt64.toUInt64).toInt64).toInt32).toInt8.toInt32)).toInt8.toInt32), (.int (((((q1.toUInt64 >>> ((24 : Int32) &&& 0x3f).toInt64.toUInt64).toInt64).toInt32).toInt8.toInt32)).toInt8.toInt32), (.int (((((q1.toUInt64 >>> ((32 : Int32) &&& 0x3f).toInt64.toUInt64).toInt64).toInt32).toInt8.toInt32)).toInt8.toInt32), (.int (0 : Int32)), (.int (0 : Int32)), (.int (0 : Int32))] (.int (0 : Int32)) := Arv.set Ar_16 q_16 S_16 N_16 H_16 G_16 (fits_nar_byte _) W16 4 rfl (Nat.le_of_ble_eq_true rfl)
  have N16 := Fr.snoc X16 N13 g_b1
  have Z17 : n0 ≤ h16.size := Nat.le_trans Z14 (Keep.of_wr W16).1
  have K18 : Keep h0 h16 [] := K15.wr W16 (Or.inr sz_b1)
  show Gd p.tables e below _ (T16.setTop (mkF m 47 #[.val (.long q1), .second, .val (.ref b1)] []))
  refine Gd.st (fun _ k => XS.aloadN X16.here hx rfl (hb hby d1_47) rfl rfl k) ?_
  show Gd p.tables e below _ (T16.setTop (mkF m 48 #[.val (.long q1), .second, .val (.ref b1)] [(.ref b1)]))
  refine Gd.st (fun _ k => XS.iconst X16.here hx rfl (hb hby d1_48) k) ?_
  show Gd p.tables e below _ (T16.setTop (mkF m 49 #[.val (.long q1), .second, .val (.ref b1)] [(.int (5 : Int32)), (.ref b1)]))
  refine Gd.st (fun _ k => XS.lloadN X16.here hx rfl (hb hby d1_49) rfl k) ?_
  show Gd p.tables e below _ (T16.setTop (mkF m 50 #[.val (.long q1), .second, .val (.ref b1)] [(.long q1), (.int (5 : Int32)), (.ref b1)]))
  refine Gd.st (fun _ k => XS.bipush X16.here hx rfl (hb hby d1_50) k) ?_
  show Gd p.tables e below _ (T16.setTop (mkF m 52 #[.val (.long q1), .second, .val (.ref b1)] [(.int (40 : Int32)), (.long q1), (.int (5 : Int32)), (.ref b1)]))
  refine Gd.st (fun _ k => XS.lushr X16.here hx rfl (hb hby d1_52) rfl k) ?_
  show Gd p.tables e below _ (T16.setTop (mkF m 53 #[.val (.long q1), .second, .val (.ref b1)] [(.long ((q1.toUInt64 >>> ((40 : Int32) &&& 0x3f).toInt64.toUInt64).toInt64)), (.int (5 : Int32)), (.ref b1)]))
  refine Gd.st (fun _ k => XS.l2i X16.here hx rfl (hb hby d1_53) rfl k) ?_
  show Gd p.tables e below _ (T16.setTop (mkF m 54 #[.val (.long q1), .second, .val (.ref b1)] [(.int (((q1.toUInt64 >>> ((40 : Int32) &&& 0x3f).toInt64.toUInt64).toInt64).toInt32)), (.int (5 : Int32)), (.ref b1)]))
  refine Gd.st (fun _ k => XS.i2b X16.here hx rfl (hb hby d1_54) rfl k) ?_
  show Gd p.tables e below _ (T16.setTop (mkF m 55 #[.val (.long q1), .second, .val (.ref b1)] [(.int ((((q1.toUInt64 >>> ((40 : Int32) &&& 0x3f).toInt64.toUInt64).toInt64).toInt32).toInt8.toInt32)), (.int (5 : Int32)), (.ref b1)]))
  obtain ⟨cl_19, Ar_19, q_19, S_19, N_19, H_19, G_19⟩ := id Va_16
  have hin_19 : ¬ ((5 : Int32) < 0 ∨ cl_19.slots.size ≤ ((5 : Int32)).toNatClampNeg) := inb_of S_19 ⟨by decide, by decide⟩
  obtain ⟨T19, h19, X19, e19, W19, st19⟩ := stB X16 hx hZ e16 Ar_19 (j := (5 : Int32)) hin_19 (g := (mkF m 55 #[.val (.long q1), .second, .val (.ref b1)] [(.int ((((q1.toUInt64 >>> ((40 : Int32) &&& 0x3f).toInt64.toUInt64).toInt64).toInt32).toInt8.toInt32)), (.int (5 : Int32)), (.ref b1)])) rfl rfl (hb hby d1_55)
  refine Gd.st st19 ?_
  have Va_19 : Arv Z h19 b1 k1 .byte (8 : Int32) [(.int (((q1.toInt32).toInt8.toInt32)).toInt8.toInt32), (.int (((((q1.toUInt64 >>> ((8 : Int32) &&& 0x3f).toInt64.toUInt64).toInt64).toInt32).toInt8.toInt32)).toInt8.toInt32), (.int (((((q1.toUInt64 >>> ((16 : Int32) &&& 0x3f).toInt64.toUInt64).toInt64).toInt32).toInt8.toInt32)).toInt8.toInt32), (.int (((((q1.toUInt64 >>> ((24 : Int32) &&& 0x3f).toInt64.toUInt64).toInt64).toInt32).toInt8.toInt32)).toInt8.toInt32), (.int (((((q1.toUInt64 >>> ((32 : Int32) &&& 0x3f).toInt64.toUInt64).toInt64).toInt32).toInt8.toInt32)).toInt8.toInt32), (.int (((((q1.toUInt64 >>> ((40 : Int32) &&& 0x3f).toInt64.toUInt64).toInt64).toInt32).toInt8.toInt32)).toInt8.toInt32), (.int (0 : Int32)), (.int (0 : Int32))] (.int (0 : Int32)) := Arv.set Ar_19 q_19 S_19 N_19 H_19 G_19 (fits_nar_byte _) W19 5 rfl (Nat.le_of_ble_eq_true rfl)
  have N19 := Fr.snoc X19 N16 g_b1
  have Z20 : n0 ≤ h19.size := Nat.le_trans Z17 (Keep.of_wr W19).1
  have K21 : Keep h0 h19 [] := K18.wr W19 (Or.inr sz_b1)
  show Gd p.tables e below _ (T19.setTop (mkF m 56 #[.val (.long q1), .second, .val (.ref b1)] []))
  refine Gd.st (fun _ k => XS.aloadN X19.here hx rfl (hb hby d1_56) rfl rfl k) ?_
  show Gd p.tables e below _ (T19.setTop (mkF m 57 #[.val (.long q1), .second, .val (.ref b1)] [(.ref b1)]))
  refine Gd.st (fun _ k => XS.bipush X19.here hx rfl (hb hby d1_57) k) ?_
  show Gd p.tables e below _ (T19.setTop (mkF m 59 #[.val (.long q1), .second, .val (.ref b1)] [(.int (6 : Int32)), (.ref b1)]))
  refine Gd.st (fun _ k => XS.lloadN X19.here hx rfl (hb hby d1_59) rfl k) ?_
  show Gd p.tables e below _ (T19.setTop (mkF m 60 #[.val (.long q1), .second, .val (.ref b1)] [(.long q1), (.int (6 : Int32)), (.ref b1)]))
  refine Gd.st (fun _ k => XS.bipush X19.here hx rfl (hb hby d1_60) k) ?_
  show Gd p.tables e below _ (T19.setTop (mkF m 62 #[.val (.long q1), .second, .val (.ref b1)] [(.int (48 : Int32)), (.long q1), (.int (6 : Int32)), (.ref b1)]))
  refine Gd.st (fun _ k => XS.lushr X19.here hx rfl (hb hby d1_62) rfl k) ?_
  show Gd p.tables e below _ (T19.setTop (mkF m 63 #[.val (.long q1), .second, .val (.ref b1)] [(.long ((q1.toUInt64 >>> ((48 : Int32) &&& 0x3f).toInt64.toUInt64).toInt64)), (.int (6 : Int32)), (.ref b1)]))
  refine Gd.st (fun _ k => XS.l2i X19.here hx rfl (hb hby d1_63) rfl k) ?_
  show Gd p.tables e below _ (T19.setTop (mkF m 64 #[.val (.long q1), .second, .val (.ref b1)] [(.int (((q1.toUInt64 >>> ((48 : Int32) &&& 0x3f).toInt64.toUInt64).toInt64).toInt32)), (.int (6 : Int32)), (.ref b1)]))
  refine Gd.st (fun _ k => XS.i2b X19.here hx rfl (hb hby d1_64) rfl k) ?_
  show Gd p.tables e below _ (T19.setTop (mkF m 65 #[.val (.long q1), .second, .val (.ref b1)] [(.int ((((q1.toUInt64 >>> ((48 : Int32) &&& 0x3f).toInt64.toUInt64).toInt64).toInt32).toInt8.toInt32)), (.int (6 : Int32)), (.ref b1)]))
  obtain ⟨cl_22, Ar_22, q_22, S_22, N_22, H_22, G_22⟩ := id Va_19
  have hin_22 : ¬ ((6 : Int32) < 0 ∨ cl_22.slots.size ≤ ((6 : Int32)).toNatClampNeg) := inb_of S_22 ⟨by decide, by decide⟩
  obtain ⟨T22, h22, X22, e22, W22, st22⟩ := stB X19 hx hZ e19 Ar_22 (j := (6 : Int32)) hin_22 (g := (mkF m 65 #[.val (.long q1), .second, .val (.ref b1)] [(.int ((((q1.toUInt64 >>> ((48 : Int32) &&& 0x3f).toInt64.toUInt64).toInt64).toInt32).toInt8.toInt32)), (.int (6 : Int32)), (.ref b1)])) rfl rfl (hb hby d1_65)
  refine Gd.st st22 ?_
  have Va_22 : Arv Z h22 b1 k1 .byte (8 : Int32) [(.int (((q1.toInt32).toInt8.toInt32)).toInt8.toInt32), (.int (((((q1.toUInt64 >>> ((8 : Int32) &&& 0x3f).toInt64.toUInt64).toInt64).toInt32).toInt8.toInt32)).toInt8.toInt32), (.int (((((q1.toUInt64 >>> ((16 : Int32) &&& 0x3f).toInt64.toUInt64).toInt64).toInt32).toInt8.toInt32)).toInt8.toInt32), (.int (((((q1.toUInt64 >>> ((24 : Int32) &&& 0x3f).toInt64.toUInt64).toInt64).toInt32).toInt8.toInt32)).toInt8.toInt32), (.int (((((q1.toUInt64 >>> ((32 : Int32) &&& 0x3f).toInt64.toUInt64).toInt64).toInt32).toInt8.toInt32)).toInt8.toInt32), (.int (((((q1.toUInt64 >>> ((40 : Int32) &&& 0x3f).toInt64.toUInt64).toInt64).toInt32).toInt8.toInt32)).toInt8.toInt32), (.int (((((q1.toUInt64 >>> ((48 : Int32) &&& 0x3f).toInt64.toUInt64).toInt64).toInt32).toInt8.toInt32)).toInt8.toInt32), (.int (0 : Int32))] (.int (0 : Int32)) := Arv.set Ar_22 q_22 S_22 N_22 H_22 G_22 (fits_nar_byte _) W22 6 rfl (Nat.le_of_ble_eq_true rfl)
  have N22 := Fr.snoc X22 N19 g_b1
  have Z23 : n0 ≤ h22.size := Nat.le_trans Z20 (Keep.of_wr W22).1
  have K24 : Keep h0 h22 [] := K21.wr W22 (Or.inr sz_b1)
  show Gd p.tables e below _ (T22.setTop (mkF m 66 #[.val (.long q1), .second, .val (.ref b1)] []))
  refine Gd.st (fun _ k => XS.aloadN X22.here hx rfl (hb hby d1_66) rfl rfl k) ?_
  show Gd p.tables e below _ (T22.setTop (mkF m 67 #[.val (.long q1), .second, .val (.ref b1)] [(.ref b1)]))
  refine Gd.st (fun _ k => XS.bipush X22.here hx rfl (hb hby d1_67) k) ?_
  show Gd p.tables e below _ (T22.setTop (mkF m 69 #[.val (.long q1), .second, .val (.ref b1)] [(.int (7 : Int32)), (.ref b1)]))
  refine Gd.st (fun _ k => XS.lloadN X22.here hx rfl (hb hby d1_69) rfl k) ?_
  show Gd p.tables e below _ (T22.setTop (mkF m 70 #[.val (.long q1), .second, .val (.ref b1)] [(.long q1), (.int (7 : Int32)), (.ref b1)]))
  refine Gd.st (fun _ k => XS.bipush X22.here hx rfl (hb hby d1_70) k) ?_
  show Gd p.tables e below _ (T22.setTop (mkF m 72 #[.val (.long q1), .second, .val (.ref b1)] [(.int (56 : Int32)), (.long q1), (.int (7 : Int32)), (.ref b1)]))
  refine Gd.st (fun _ k => XS.lushr X22.here hx rfl (hb hby d1_72) rfl k) ?_
  show Gd p.tables e below _ (T22.setTop (mkF m 73 #[.val (.long q1), .second, .val (.ref b1)] [(.long ((q1.toUInt64 >>> ((56 : Int32) &&& 0x3f).toInt64.toUInt64).toInt64)), (.int (7 : Int32)), (.ref b1)]))
  refine Gd.st (fun _ k => XS.l2i X22.here hx rfl (hb hby d1_73) rfl k) ?_
  show Gd p.tables e below _ (T22.setTop (mkF m 74 #[.val (.long q1), .second, .val (.ref b1)] [(.int (((q1.toUInt64 >>> ((56 : Int32) &&& 0x3f).toInt64.toUInt64).toInt64).toInt32)), (.int (7 : Int32)), (.ref b1)]))
  refine Gd.st (fun _ k => XS.i2b X22.here hx rfl (hb hby d1_74) rfl k) ?_
  show Gd p.tables e below _ (T22.setTop (mkF m 75 #[.val (.long q1), .second, .val (.ref b1)] [(.int ((((q1.toUInt64 >>> ((56 : Int32) &&& 0x3f).toInt64.toUInt64).toInt64).toInt32).toInt8.toInt32)), (.int (7 : Int32)), (.ref b1)]))
  obtain ⟨cl_25, Ar_25, q_25, S_25, N_25, H_25, G_25⟩ := id Va_22
  have hin_25 : ¬ ((7 : Int32) < 0 ∨ cl_25.slots.size ≤ ((7 : Int32)).toNatClampNeg) := inb_of S_25 ⟨by decide, by decide⟩
  obtain ⟨T25, h25, X25, e25, W25, st25⟩ := stB X22 hx hZ e22 Ar_25 (j := (7 : Int32)) hin_25 (g := (mkF m 75 #[.val (.long q1), .second, .val (.ref b1)] [(.int ((((q1.toUInt64 >>> ((56 : Int32) &&& 0x3f).toInt64.toUInt64).toInt64).toInt32).toInt8.toInt32)), (.int (7 : Int32)), (.ref b1)])) rfl rfl (hb hby d1_75)
  refine Gd.st st25 ?_
  have Va_25 : Arv Z h25 b1 k1 .byte (8 : Int32) [(.int (((q1.toInt32).toInt8.toInt32)).toInt8.toInt32), (.int (((((q1.toUInt64 >>> ((8 : Int32) &&& 0x3f).toInt64.toUInt64).toInt64).toInt32).toInt8.toInt32)).toInt8.toInt32), (.int (((((q1.toUInt64 >>> ((16 : Int32) &&& 0x3f).toInt64.toUInt64).toInt64).toInt32).toInt8.toInt32)).toInt8.toInt32), (.int (((((q1.toUInt64 >>> ((24 : Int32) &&& 0x3f).toInt64.toUInt64).toInt64).toInt32).toInt8.toInt32)).toInt8.toInt32), (.int (((((q1.toUInt64 >>> ((32 : Int32) &&& 0x3f).toInt64.toUInt64).toInt64).toInt32).toInt8.toInt32)).toInt8.toInt32), (.int (((((q1.toUInt64 >>> ((40 : Int32) &&& 0x3f).toInt64.toUInt64).toInt64).toInt32).toInt8.toInt32)).toInt8.toInt32), (.int (((((q1.toUInt64 >>> ((48 : Int32) &&& 0x3f).toInt64.toUInt64).toInt64).toInt32).toInt8.toInt32)).toInt8.toInt32), (.int (((((q1.toUInt64 >>> ((56 : Int32) &&& 0x3f).toInt64.toUInt64).toInt64).toInt32).toInt8.toInt32)).toInt8.toInt32)] (.int (0 : Int32)) := Arv.set Ar_25 q_25 S_25 N_25 H_25 G_25 (fits_nar_byte _) W25 7 rfl (Nat.le_of_ble_eq_true rfl)
  have N25 := Fr.snoc X25 N22 g_b1
  have Z26 : n0 ≤ h25.size := Nat.le_trans Z23 (Keep.of_wr W25).1
  have K27 : Keep h0 h25 [] := K24.wr W25 (Or.inr sz_b1)
  show Gd p.tables e below _ (T25.setTop (mkF m 76 #[.val (.long q1), .second, .val (.ref b1)] []))
  refine Gd.st (fun _ k => XS.aloadN X25.here hx rfl (hb hby d1_76) rfl rfl k) ?_
  show Gd p.tables e below _ (T25.setTop (mkF m 77 #[.val (.long q1), .second, .val (.ref b1)] [(.ref b1)]))
  obtain ⟨fs, hr, hrun, hended, hW, hsame⟩ := X25.leave (v := some (.ref b1)) (fun h => by rw [Bd.returns] at h; cases h) Bd.notSynchronized
  refine Gd.mk (o := .returned (some (.ref b1))) (retA X25 hx Bd.returns rfl rfl (hb hby d1_77) hr) ⟨hrun, hended, _, _, rfl, ?_, ⟨_, rfl⟩, hW, hsame.mono (by decide) (by decide)⟩
  show Q1 Z q1 h0 n0 _ T25.heap _
  rw [e25]
  exact ⟨by rw [g1], N25, K27, k1, own_f8 ((((q1.toInt32).toInt8.toInt32)).toInt8.toInt32) ((((((q1.toUInt64 >>> ((8 : Int32) &&& 0x3f).toInt64.toUInt64).toInt64).toInt32).toInt8.toInt32)).toInt8.toInt32) ((((((q1.toUInt64 >>> ((16 : Int32) &&& 0x3f).toInt64.toUInt64).toInt64).toInt32).toInt8.toInt32)).toInt8.toInt32) ((((((q1.toUInt64 >>> ((24 : Int32) &&& 0x3f).toInt64.toUInt64).toInt64).toInt32).toInt8.toInt32)).toInt8.toInt32) ((((((q1.toUInt64 >>> ((32 : Int32) &&& 0x3f).toInt64.toUInt64).toInt64).toInt32).toInt8.toInt32)).toInt8.toInt32) ((((((q1.toUInt64 >>> ((40 : Int32) &&& 0x3f).toInt64.toUInt64).toInt64).toInt32).toInt8.toInt32)).toInt8.toInt32) ((((((q1.toUInt64 >>> ((48 : Int32) &&& 0x3f).toInt64.toUInt64).toInt64).toInt32).toInt8.toInt32)).toInt8.toInt32) ((((((q1.toUInt64 >>> ((56 : Int32) &&& 0x3f).toInt64.toUInt64).toInt64).toInt32).toInt8.toInt32)).toInt8.toInt32), (by rw [← g1]; exact Va_25)⟩
theorem d2_0 : decode method_4_code 0 = .ok (.iload_n 2, 1) := by decide +kernel
theorem d2_1 : decode method_4_code 1 = .ok (.ifCond .le 8, 3) := by decide +kernel
theorem d2_4 : decode method_4_code 4 = .ok (.aload_n 0, 1) := by decide +kernel
theorem d2_5 : decode method_4_code 5 = .ok (.iload_n 1, 1) := by decide +kernel
theorem d2_6 : decode method_4_code 6 = .ok (.iload_n 3, 1) := by decide +kernel
theorem d2_7 : decode method_4_code 7 = .ok (.i2b, 1) := by decide +kernel
theorem d2_8 : decode method_4_code 8 = .ok (.bastore, 1) := by decide +kernel
theorem d2_9 : decode method_4_code 9 = .ok (.iload_n 2, 1) := by decide +kernel
theorem d2_10 : decode method_4_code 10 = .ok (.iconst 1, 1) := by decide +kernel
theorem d2_11 : decode method_4_code 11 = .ok (.if_icmp .le 13, 3) := by decide +kernel
theorem d2_14 : decode method_4_code 14 = .ok (.aload_n 0, 1) := by decide +kernel
theorem d2_15 : decode method_4_code 15 = .ok (.iload_n 1, 1) := by decide +kernel
theorem d2_16 : decode method_4_code 16 = .ok (.iconst 1, 1) := by decide +kernel
theorem d2_17 : decode method_4_code 17 = .ok (.iadd, 1) := by decide +kernel
theorem d2_18 : decode method_4_code 18 = .ok (.iload_n 3, 1) := by decide +kernel
theorem d2_19 : decode method_4_code 19 = .ok (.bipush 8, 2) := by decide +kernel
theorem d2_21 : decode method_4_code 21 = .ok (.iushr, 1) := by decide +kernel
theorem d2_22 : decode method_4_code 22 = .ok (.i2b, 1) := by decide +kernel
theorem d2_23 : decode method_4_code 23 = .ok (.bastore, 1) := by decide +kernel
theorem d2_24 : decode method_4_code 24 = .ok (.iload_n 2, 1) := by decide +kernel
theorem d2_25 : decode method_4_code 25 = .ok (.iconst 2, 1) := by decide +kernel
theorem d2_26 : decode method_4_code 26 = .ok (.if_icmp .le 13, 3) := by decide +kernel
theorem d2_29 : decode method_4_code 29 = .ok (.aload_n 0, 1) := by decide +kernel
theorem d2_30 : decode method_4_code 30 = .ok (.iload_n 1, 1) := by decide +kernel
theorem d2_31 : decode method_4_code 31 = .ok (.iconst 2, 1) := by decide +kernel
theorem d2_32 : decode method_4_code 32 = .ok (.iadd, 1) := by decide +kernel
theorem d2_33 : decode method_4_code 33 = .ok (.iload_n 3, 1) := by decide +kernel
theorem d2_34 : decode method_4_code 34 = .ok (.bipush 16, 2) := by decide +kernel
theorem d2_36 : decode method_4_code 36 = .ok (.iushr, 1) := by decide +kernel
theorem d2_37 : decode method_4_code 37 = .ok (.i2b, 1) := by decide +kernel
theorem d2_38 : decode method_4_code 38 = .ok (.bastore, 1) := by decide +kernel
theorem d2_39 : decode method_4_code 39 = .ok (.iload_n 2, 1) := by decide +kernel
theorem d2_40 : decode method_4_code 40 = .ok (.iconst 3, 1) := by decide +kernel
theorem d2_41 : decode method_4_code 41 = .ok (.if_icmp .le 13, 3) := by decide +kernel
theorem d2_44 : decode method_4_code 44 = .ok (.aload_n 0, 1) := by decide +kernel
theorem d2_45 : decode method_4_code 45 = .ok (.iload_n 1, 1) := by decide +kernel
theorem d2_46 : decode method_4_code 46 = .ok (.iconst 3, 1) := by decide +kernel
theorem d2_47 : decode method_4_code 47 = .ok (.iadd, 1) := by decide +kernel
theorem d2_48 : decode method_4_code 48 = .ok (.iload_n 3, 1) := by decide +kernel
theorem d2_49 : decode method_4_code 49 = .ok (.bipush 24, 2) := by decide +kernel
theorem d2_51 : decode method_4_code 51 = .ok (.iushr, 1) := by decide +kernel
theorem d2_52 : decode method_4_code 52 = .ok (.i2b, 1) := by decide +kernel
theorem d2_53 : decode method_4_code 53 = .ok (.bastore, 1) := by decide +kernel
theorem d2_54 : decode method_4_code 54 = .ok (.return_, 1) := by decide +kernel
theorem ef_2 (m : MethodId) (x0 : Addr) (x1 : Int32) (x2 : Int32) (x3 : Int32) : entryFrame m #[(.ref x0), (.int x1), (.int x2), (.int x3)] 4 = mkF m 0 #[.val (.ref x0), .val (.int x1), .val (.int x2), .val (.int x3)] [] := by first | (simp [entryFrame, mkF, argsToLocals, Value.category]; done) | rfl
def Q2 (Z : State) (a1 : Addr) (p2 : Int32) (p3 : Int32) (p4 : Int32) (k1 : ClassId) (f1 : Nat → Int32) (h0 : Heap) (n0 : Nat) (v : Option Value) (h : Heap) (L : List Loc) : Prop := v = none ∧ Fr n0 L ∧ Keep h0 h [a1] ∧ Arv Z h a1 k1 .byte (8 : Int32) (own_vs (own_place f1 p2 p3 p4)) (.int (0 : Int32))
set_option maxRecDepth 65536 in
set_option maxHeartbeats 40000000 in
theorem rm2 (l : Launch) (Z : State) (a0 : Array Value) (hw : ∀ d ∈ tables_1, d.before a0 Z = true) (ws : List Jvm.Cond) (a1 : Addr) (p2 : Int32) (p3 : Int32) (p4 : Int32) (k1 : ClassId) (f1 : Nat → Int32) (h0 : Heap) (n0 : Nat) (Z0 : n0 ≤ h0.size) (V0 : Arv Z h0 a1 k1 .byte (8 : Int32) (own_vs f1) (.int (0 : Int32))) (g_a1 : n0 ≤ a1) (hf : 0 ≤ p2.toInt ∧ p2.toInt ≤ 3) (hn : p3 = (0 : Int32) ∨ p3 = (1 : Int32) ∨ p3 = (2 : Int32) ∨ p3 = (3 : Int32) ∨ p3 = (4 : Int32)) :
    MetFree l (⟨"com/example/kosha/kosha/ByteHashOfPinLaw", "place", "([BIII)V"⟩ : MethodName) (head1 (Jvm.Cond.code (⟨"com/example/kosha/kosha/ByteHashOfPinLaw", "place", "([BIII)V"⟩ : MethodName) method_4_code 4 none :: ws) ({ frames := 0, cells := 0, slots := 0, locals := 0 } : Room)) (fun a U => a = #[(.ref a1), (.int p2), (.int p3), (.int p4)] ∧ Z.Warmed39 U.vm ∧ U.heap = h0) (fun _ _ _ _ _ => True) (fun _ U o U' => ∃ v L, o = .returned v ∧ Q2 Z a1 p2 p3 p4 k1 f1 h0 n0 v U'.heap L ∧ FrameEnd U o U' L ({ frames := 0, cells := 0, slots := 0, locals := 0 } : Room).cells ({ frames := 0, cells := 0, slots := 0, locals := 0 } : Room).slots) := by
  refine MetFree.of_bodySF (plainFor_of_name pn_ByteHashOfPinLaw) hisR ?_
  intro p e s m args below meth c s₁ Bd hml0 hP hK
  obtain ⟨rfl, hZ, hh⟩ := hP
  have hx := Bd.exec
  have hby := Bd.bytes
  have hml : c.maxLocals = 4 := hml0
  have hown : s.vm.findClass "com/example/kosha/kosha/ByteHashOfPinLaw" = some m.cls := findClass_of_methodNamed Bd.named
  have hnm := (name_of_methodNamed Bd.named Bd.method).1
  have X0 : Stand p l e ({ frames := 0, cells := 0, slots := 0, locals := 0 } : Room) s m #[(.ref a1), (.int p2), (.int p3), (.int p4)] below meth c s₁ [] 0 0 := Stand.of_body Bd
  have e0 : s₁.heap = h0 := by rw [← hh, Bd.state]; rfl
  have N0 := Fr.nil n0
  refine Gd.out (Gd.st (fun t k => castTop (ef_2 m a1 p2 p3 p4) k) ?_)
  rcases hn with rfl | rfl | rfl | rfl | rfl
  · skip
    show Gd p.tables e below _ (s₁.setTop (mkF m 0 #[.val (.ref a1), .val (.int p2), .val (.int (0 : Int32)), .val (.int p4)] []))
    refine Gd.st (fun _ k => XS.iloadN X0.here hx rfl (hb hby d2_0) rfl k) ?_
    show Gd p.tables e below _ (s₁.setTop (mkF m 1 #[.val (.ref a1), .val (.int p2), .val (.int (0 : Int32)), .val (.int p4)] [(.int (0 : Int32))]))
    refine Gd.st (fun _ k => XS.ifYes X0.here hx rfl (pc0 := 1) (pc' := 9) rfl (hb hby d2_1) rfl ((if0 _ _).trans (flt (by decide)).2.2.2) (by decide) (by decide) k) ?_
    show Gd p.tables e below _ (s₁.setTop (mkF m 9 #[.val (.ref a1), .val (.int p2), .val (.int (0 : Int32)), .val (.int p4)] []))
    refine Gd.st (fun _ k => XS.iloadN X0.here hx rfl (hb hby d2_9) rfl k) ?_
    show Gd p.tables e below _ (s₁.setTop (mkF m 10 #[.val (.ref a1), .val (.int p2), .val (.int (0 : Int32)), .val (.int p4)] [(.int (0 : Int32))]))
    refine Gd.st (fun _ k => XS.iconst X0.here hx rfl (hb hby d2_10) k) ?_
    show Gd p.tables e below _ (s₁.setTop (mkF m 11 #[.val (.ref a1), .val (.int p2), .val (.int (0 : Int32)), .val (.int p4)] [(.int (1 : Int32)), (.int (0 : Int32))]))
    refine Gd.st (fun _ k => XS.icmpYes X0.here hx rfl (pc0 := 11) (pc' := 24) rfl (hb hby d2_11) rfl (flt (by decide)).2.2.2 (by decide) (by decide) k) ?_
    show Gd p.tables e below _ (s₁.setTop (mkF m 24 #[.val (.ref a1), .val (.int p2), .val (.int (0 : Int32)), .val (.int p4)] []))
    refine Gd.st (fun _ k => XS.iloadN X0.here hx rfl (hb hby d2_24) rfl k) ?_
    show Gd p.tables e below _ (s₁.setTop (mkF m 25 #[.val (.ref a1), .val (.int p2), .val (.int (0 : Int32)), .val (.int p4)] [(.int (0 : Int32))]))
    refine Gd.st (fun _ k => XS.iconst X0.here hx rfl (hb hby d2_25) k) ?_
    show Gd p.tables e below _ (s₁.setTop (mkF m 26 #[.val (.ref a1), .val (.int p2), .val (.int (0 : Int32)), .val (.int p4)] [(.int (2 : Int32)), (.int (0 : Int32))]))
    refine Gd.st (fun _ k => XS.icmpYes X0.here hx rfl (pc0 := 26) (pc' := 39) rfl (hb hby d2_26) rfl (flt (by decide)).2.2.2 (by decide) (by decide) k) ?_
    show Gd p.tables e below _ (s₁.setTop (mkF m 39 #[.val (.ref a1), .val (.int p2), .val (.int (0 : Int32)), .val (.int p4)] []))
    refine Gd.st (fun _ k => XS.iloadN X0.here hx rfl (hb hby d2_39) rfl k) ?_
    show Gd p.tables e below _ (s₁.setTop (mkF m 40 #[.val (.ref a1), .val (.int p2), .val (.int (0 : Int32)), .val (.int p4)] [(.int (0 : Int32))]))
    refine Gd.st (fun _ k => XS.iconst X0.here hx rfl (hb hby d2_40) k) ?_
    show Gd p.tables e below _ (s₁.setTop (mkF m 41 #[.val (.ref a1), .val (.int p2), .val (.int (0 : Int32)), .val (.int p4)] [(.int (3 : Int32)), (.int (0 : Int32))]))
    refine Gd.st (fun _ k => XS.icmpYes X0.here hx rfl (pc0 := 41) (pc' := 54) rfl (hb hby d2_41) rfl (flt (by decide)).2.2.2 (by decide) (by decide) k) ?_
    show Gd p.tables e below _ (s₁.setTop (mkF m 54 #[.val (.ref a1), .val (.int p2), .val (.int (0 : Int32)), .val (.int p4)] []))
    obtain ⟨fs, hr, hrun, hended, hW, hsame⟩ := X0.leave (v := none) (fun _ => rfl) Bd.notSynchronized
    refine Gd.mk (o := .returned (none)) (X0.returnOut hx Bd.returns (hb hby d2_54) hr) ⟨hrun, hended, _, _, rfl, ?_, ⟨_, rfl⟩, hW, hsame.mono (by decide) (by decide)⟩
    show Q2 Z a1 p2 (0 : Int32) p4 k1 f1 h0 n0 _ s₁.heap _
    rw [e0]
    exact ⟨rfl, N0, (Keep.refl h0 [a1]), (by unfold own_place; rw [own_pl0]; exact V0)⟩
  · skip
    show Gd p.tables e below _ (s₁.setTop (mkF m 0 #[.val (.ref a1), .val (.int p2), .val (.int (1 : Int32)), .val (.int p4)] []))
    refine Gd.st (fun _ k => XS.iloadN X0.here hx rfl (hb hby d2_0) rfl k) ?_
    show Gd p.tables e below _ (s₁.setTop (mkF m 1 #[.val (.ref a1), .val (.int p2), .val (.int (1 : Int32)), .val (.int p4)] [(.int (1 : Int32))]))
    refine Gd.st (fun _ k => XS.ifNo X0.here hx rfl (hb hby d2_1) rfl ((if0 _ _).trans (tlt (by decide)).2.2.2) k) ?_
    show Gd p.tables e below _ (s₁.setTop (mkF m 4 #[.val (.ref a1), .val (.int p2), .val (.int (1 : Int32)), .val (.int p4)] []))
    refine Gd.st (fun _ k => XS.aloadN X0.here hx rfl (hb hby d2_4) rfl rfl k) ?_
    show Gd p.tables e below _ (s₁.setTop (mkF m 5 #[.val (.ref a1), .val (.int p2), .val (.int (1 : Int32)), .val (.int p4)] [(.ref a1)]))
    refine Gd.st (fun _ k => XS.iloadN X0.here hx rfl (hb hby d2_5) rfl k) ?_
    show Gd p.tables e below _ (s₁.setTop (mkF m 6 #[.val (.ref a1), .val (.int p2), .val (.int (1 : Int32)), .val (.int p4)] [(.int p2), (.ref a1)]))
    refine Gd.st (fun _ k => XS.iloadN X0.here hx rfl (hb hby d2_6) rfl k) ?_
    show Gd p.tables e below _ (s₁.setTop (mkF m 7 #[.val (.ref a1), .val (.int p2), .val (.int (1 : Int32)), .val (.int p4)] [(.int p4), (.int p2), (.ref a1)]))
    refine Gd.st (fun _ k => XS.i2b X0.here hx rfl (hb hby d2_7) rfl k) ?_
    show Gd p.tables e below _ (s₁.setTop (mkF m 8 #[.val (.ref a1), .val (.int p2), .val (.int (1 : Int32)), .val (.int p4)] [(.int (p4.toInt8.toInt32)), (.int p2), (.ref a1)]))
    obtain ⟨cl_1, Ar_1, q_1, S_1, N_1, H_1, G_1⟩ := id V0
    have hib_1 : ¬ p2 < 0 ∧ p2 < (8 : Int32) := own_inb _ (by omega)
    obtain ⟨T1, h1, X1, e1, W1, st1⟩ := stB X0 hx hZ e0 Ar_1 (j := p2) (inb_of S_1 hib_1) (g := (mkF m 8 #[.val (.ref a1), .val (.int p2), .val (.int (1 : Int32)), .val (.int p4)] [(.int (p4.toInt8.toInt32)), (.int p2), (.ref a1)])) rfl rfl (hb hby d2_8)
    refine Gd.st st1 ?_
    have Va_1 : Arv Z h1 a1 k1 .byte (8 : Int32) (own_vs (own_up f1 p2.toNatClampNeg (own_by p4))) (.int (0 : Int32)) := own_put Ar_1 q_1 S_1 N_1 H_1 G_1 W1 (own_lt _ hib_1)
    have N1 := Fr.snoc X1 N0 g_a1
    have Z2 : n0 ≤ h1.size := Nat.le_trans Z0 (Keep.of_wr W1).1
    have K3 : Keep h0 h1 [a1] := (Keep.refl h0 [a1]).wr W1 (Or.inl (List.mem_of_getElem? (i := 0) rfl))
    show Gd p.tables e below _ (T1.setTop (mkF m 9 #[.val (.ref a1), .val (.int p2), .val (.int (1 : Int32)), .val (.int p4)] []))
    refine Gd.st (fun _ k => XS.iloadN X1.here hx rfl (hb hby d2_9) rfl k) ?_
    show Gd p.tables e below _ (T1.setTop (mkF m 10 #[.val (.ref a1), .val (.int p2), .val (.int (1 : Int32)), .val (.int p4)] [(.int (1 : Int32))]))
    refine Gd.st (fun _ k => XS.iconst X1.here hx rfl (hb hby d2_10) k) ?_
    show Gd p.tables e below _ (T1.setTop (mkF m 11 #[.val (.ref a1), .val (.int p2), .val (.int (1 : Int32)), .val (.int p4)] [(.int (1 : Int32)), (.int (1 : Int32))]))
    refine Gd.st (fun _ k => XS.icmpYes X1.here hx rfl (pc0 := 11) (pc' := 24) rfl (hb hby d2_11) rfl (flt (by decide)).2.2.2 (by decide) (by decide) k) ?_
    show Gd p.tables e below _ (T1.setTop (mkF m 24 #[.val (.ref a1), .val (.int p2), .val (.int (1 : Int32)), .val (.int p4)] []))
    refine Gd.st (fun _ k => XS.iloadN X1.here hx rfl (hb hby d2_24) rfl k) ?_
    show Gd p.tables e below _ (T1.setTop (mkF m 25 #[.val (.ref a1), .val (.int p2), .val (.int (1 : Int32)), .val (.int p4)] [(.int (1 : Int32))]))
    refine Gd.st (fun _ k => XS.iconst X1.here hx rfl (hb hby d2_25) k) ?_
    show Gd p.tables e below _ (T1.setTop (mkF m 26 #[.val (.ref a1), .val (.int p2), .val (.int (1 : Int32)), .val (.int p4)] [(.int (2 : Int32)), (.int (1 : Int32))]))
    refine Gd.st (fun _ k => XS.icmpYes X1.here hx rfl (pc0 := 26) (pc' := 39) rfl (hb hby d2_26) rfl (flt (by decide)).2.2.2 (by decide) (by decide) k) ?_
    show Gd p.tables e below _ (T1.setTop (mkF m 39 #[.val (.ref a1), .val (.int p2), .val (.int (1 : Int32)), .val (.int p4)] []))
    refine Gd.st (fun _ k => XS.iloadN X1.here hx rfl (hb hby d2_39) rfl k) ?_
    show Gd p.tables e below _ (T1.setTop (mkF m 40 #[.val (.ref a1), .val (.int p2), .val (.int (1 : Int32)), .val (.int p4)] [(.int (1 : Int32))]))
    refine Gd.st (fun _ k => XS.iconst X1.here hx rfl (hb hby d2_40) k) ?_
    show Gd p.tables e below _ (T1.setTop (mkF m 41 #[.val (.ref a1), .val (.int p2), .val (.int (1 : Int32)), .val (.int p4)] [(.int (3 : Int32)), (.int (1 : Int32))]))
    refine Gd.st (fun _ k => XS.icmpYes X1.here hx rfl (pc0 := 41) (pc' := 54) rfl (hb hby d2_41) rfl (flt (by decide)).2.2.2 (by decide) (by decide) k) ?_
    show Gd p.tables e below _ (T1.setTop (mkF m 54 #[.val (.ref a1), .val (.int p2), .val (.int (1 : Int32)), .val (.int p4)] []))
    obtain ⟨fs, hr, hrun, hended, hW, hsame⟩ := X1.leave (v := none) (fun _ => rfl) Bd.notSynchronized
    refine Gd.mk (o := .returned (none)) (X1.returnOut hx Bd.returns (hb hby d2_54) hr) ⟨hrun, hended, _, _, rfl, ?_, ⟨_, rfl⟩, hW, hsame.mono (by decide) (by decide)⟩
    show Q2 Z a1 p2 (1 : Int32) p4 k1 f1 h0 n0 _ T1.heap _
    rw [e1]
    exact ⟨rfl, N1, K3, (by unfold own_place; rw [own_pl1]; exact Va_1)⟩
  · skip
    show Gd p.tables e below _ (s₁.setTop (mkF m 0 #[.val (.ref a1), .val (.int p2), .val (.int (2 : Int32)), .val (.int p4)] []))
    refine Gd.st (fun _ k => XS.iloadN X0.here hx rfl (hb hby d2_0) rfl k) ?_
    show Gd p.tables e below _ (s₁.setTop (mkF m 1 #[.val (.ref a1), .val (.int p2), .val (.int (2 : Int32)), .val (.int p4)] [(.int (2 : Int32))]))
    refine Gd.st (fun _ k => XS.ifNo X0.here hx rfl (hb hby d2_1) rfl ((if0 _ _).trans (tlt (by decide)).2.2.2) k) ?_
    show Gd p.tables e below _ (s₁.setTop (mkF m 4 #[.val (.ref a1), .val (.int p2), .val (.int (2 : Int32)), .val (.int p4)] []))
    refine Gd.st (fun _ k => XS.aloadN X0.here hx rfl (hb hby d2_4) rfl rfl k) ?_
    show Gd p.tables e below _ (s₁.setTop (mkF m 5 #[.val (.ref a1), .val (.int p2), .val (.int (2 : Int32)), .val (.int p4)] [(.ref a1)]))
    refine Gd.st (fun _ k => XS.iloadN X0.here hx rfl (hb hby d2_5) rfl k) ?_
    show Gd p.tables e below _ (s₁.setTop (mkF m 6 #[.val (.ref a1), .val (.int p2), .val (.int (2 : Int32)), .val (.int p4)] [(.int p2), (.ref a1)]))
    refine Gd.st (fun _ k => XS.iloadN X0.here hx rfl (hb hby d2_6) rfl k) ?_
    show Gd p.tables e below _ (s₁.setTop (mkF m 7 #[.val (.ref a1), .val (.int p2), .val (.int (2 : Int32)), .val (.int p4)] [(.int p4), (.int p2), (.ref a1)]))
    refine Gd.st (fun _ k => XS.i2b X0.here hx rfl (hb hby d2_7) rfl k) ?_
    show Gd p.tables e below _ (s₁.setTop (mkF m 8 #[.val (.ref a1), .val (.int p2), .val (.int (2 : Int32)), .val (.int p4)] [(.int (p4.toInt8.toInt32)), (.int p2), (.ref a1)]))
    obtain ⟨cl_4, Ar_4, q_4, S_4, N_4, H_4, G_4⟩ := id V0
    have hib_4 : ¬ p2 < 0 ∧ p2 < (8 : Int32) := own_inb _ (by omega)
    obtain ⟨T4, h4, X4, e4, W4, st4⟩ := stB X0 hx hZ e0 Ar_4 (j := p2) (inb_of S_4 hib_4) (g := (mkF m 8 #[.val (.ref a1), .val (.int p2), .val (.int (2 : Int32)), .val (.int p4)] [(.int (p4.toInt8.toInt32)), (.int p2), (.ref a1)])) rfl rfl (hb hby d2_8)
    refine Gd.st st4 ?_
    have Va_4 : Arv Z h4 a1 k1 .byte (8 : Int32) (own_vs (own_up f1 p2.toNatClampNeg (own_by p4))) (.int (0 : Int32)) := own_put Ar_4 q_4 S_4 N_4 H_4 G_4 W4 (own_lt _ hib_4)
    have N4 := Fr.snoc X4 N0 g_a1
    have Z5 : n0 ≤ h4.size := Nat.le_trans Z0 (Keep.of_wr W4).1
    have K6 : Keep h0 h4 [a1] := (Keep.refl h0 [a1]).wr W4 (Or.inl (List.mem_of_getElem? (i := 0) rfl))
    show Gd p.tables e below _ (T4.setTop (mkF m 9 #[.val (.ref a1), .val (.int p2), .val (.int (2 : Int32)), .val (.int p4)] []))
    refine Gd.st (fun _ k => XS.iloadN X4.here hx rfl (hb hby d2_9) rfl k) ?_
    show Gd p.tables e below _ (T4.setTop (mkF m 10 #[.val (.ref a1), .val (.int p2), .val (.int (2 : Int32)), .val (.int p4)] [(.int (2 : Int32))]))
    refine Gd.st (fun _ k => XS.iconst X4.here hx rfl (hb hby d2_10) k) ?_
    show Gd p.tables e below _ (T4.setTop (mkF m 11 #[.val (.ref a1), .val (.int p2), .val (.int (2 : Int32)), .val (.int p4)] [(.int (1 : Int32)), (.int (2 : Int32))]))
    refine Gd.st (fun _ k => XS.icmpNo X4.here hx rfl (hb hby d2_11) rfl (tlt (by decide)).2.2.2 k) ?_
    show Gd p.tables e below _ (T4.setTop (mkF m 14 #[.val (.ref a1), .val (.int p2), .val (.int (2 : Int32)), .val (.int p4)] []))
    refine Gd.st (fun _ k => XS.aloadN X4.here hx rfl (hb hby d2_14) rfl rfl k) ?_
    show Gd p.tables e below _ (T4.setTop (mkF m 15 #[.val (.ref a1), .val (.int p2), .val (.int (2 : Int32)), .val (.int p4)] [(.ref a1)]))
    refine Gd.st (fun _ k => XS.iloadN X4.here hx rfl (hb hby d2_15) rfl k) ?_
    show Gd p.tables e below _ (T4.setTop (mkF m 16 #[.val (.ref a1), .val (.int p2), .val (.int (2 : Int32)), .val (.int p4)] [(.int p2), (.ref a1)]))
    refine Gd.st (fun _ k => XS.iconst X4.here hx rfl (hb hby d2_16) k) ?_
    show Gd p.tables e below _ (T4.setTop (mkF m 17 #[.val (.ref a1), .val (.int p2), .val (.int (2 : Int32)), .val (.int p4)] [(.int (1 : Int32)), (.int p2), (.ref a1)]))
    refine Gd.st (fun _ k => XS.iadd X4.here hx rfl (hb hby d2_17) rfl k) ?_
    show Gd p.tables e below _ (T4.setTop (mkF m 18 #[.val (.ref a1), .val (.int p2), .val (.int (2 : Int32)), .val (.int p4)] [(.int (p2 + (1 : Int32))), (.ref a1)]))
    refine Gd.st (fun _ k => XS.iloadN X4.here hx rfl (hb hby d2_18) rfl k) ?_
    show Gd p.tables e below _ (T4.setTop (mkF m 19 #[.val (.ref a1), .val (.int p2), .val (.int (2 : Int32)), .val (.int p4)] [(.int p4), (.int (p2 + (1 : Int32))), (.ref a1)]))
    refine Gd.st (fun _ k => XS.bipush X4.here hx rfl (hb hby d2_19) k) ?_
    show Gd p.tables e below _ (T4.setTop (mkF m 21 #[.val (.ref a1), .val (.int p2), .val (.int (2 : Int32)), .val (.int p4)] [(.int (8 : Int32)), (.int p4), (.int (p2 + (1 : Int32))), (.ref a1)]))
    refine Gd.st (fun _ k => XS.iushr X4.here hx rfl (hb hby d2_21) rfl k) ?_
    show Gd p.tables e below _ (T4.setTop (mkF m 22 #[.val (.ref a1), .val (.int p2), .val (.int (2 : Int32)), .val (.int p4)] [(.int (own_sh p4 (8 : Int32))), (.int (p2 + (1 : Int32))), (.ref a1)]))
    refine Gd.st (fun _ k => XS.i2b X4.here hx rfl (hb hby d2_22) rfl k) ?_
    show Gd p.tables e below _ (T4.setTop (mkF m 23 #[.val (.ref a1), .val (.int p2), .val (.int (2 : Int32)), .val (.int p4)] [(.int ((own_sh p4 (8 : Int32)).toInt8.toInt32)), (.int (p2 + (1 : Int32))), (.ref a1)]))
    obtain ⟨cl_7, Ar_7, q_7, S_7, N_7, H_7, G_7⟩ := id Va_4
    have hib_7 : ¬ (p2 + (1 : Int32)) < 0 ∧ (p2 + (1 : Int32)) < (8 : Int32) := own_ibk _ _ hf (by decide)
    obtain ⟨T7, h7, X7, e7, W7, st7⟩ := stB X4 hx hZ e4 Ar_7 (j := (p2 + (1 : Int32))) (inb_of S_7 hib_7) (g := (mkF m 23 #[.val (.ref a1), .val (.int p2), .val (.int (2 : Int32)), .val (.int p4)] [(.int ((own_sh p4 (8 : Int32)).toInt8.toInt32)), (.int (p2 + (1 : Int32))), (.ref a1)])) rfl rfl (hb hby d2_23)
    refine Gd.st st7 ?_
    have Va_7 : Arv Z h7 a1 k1 .byte (8 : Int32) (own_vs (own_up (own_up f1 p2.toNatClampNeg (own_by p4)) (p2 + (1 : Int32)).toNatClampNeg (own_by (own_sh p4 (8 : Int32))))) (.int (0 : Int32)) := own_put Ar_7 q_7 S_7 N_7 H_7 G_7 W7 (own_lt _ hib_7)
    have N7 := Fr.snoc X7 N4 g_a1
    have Z8 : n0 ≤ h7.size := Nat.le_trans Z5 (Keep.of_wr W7).1
    have K9 : Keep h0 h7 [a1] := K6.wr W7 (Or.inl (List.mem_of_getElem? (i := 0) rfl))
    show Gd p.tables e below _ (T7.setTop (mkF m 24 #[.val (.ref a1), .val (.int p2), .val (.int (2 : Int32)), .val (.int p4)] []))
    refine Gd.st (fun _ k => XS.iloadN X7.here hx rfl (hb hby d2_24) rfl k) ?_
    show Gd p.tables e below _ (T7.setTop (mkF m 25 #[.val (.ref a1), .val (.int p2), .val (.int (2 : Int32)), .val (.int p4)] [(.int (2 : Int32))]))
    refine Gd.st (fun _ k => XS.iconst X7.here hx rfl (hb hby d2_25) k) ?_
    show Gd p.tables e below _ (T7.setTop (mkF m 26 #[.val (.ref a1), .val (.int p2), .val (.int (2 : Int32)), .val (.int p4)] [(.int (2 : Int32)), (.int (2 : Int32))]))
    refine Gd.st (fun _ k => XS.icmpYes X7.here hx rfl (pc0 := 26) (pc' := 39) rfl (hb hby d2_26) rfl (flt (by decide)).2.2.2 (by decide) (by decide) k) ?_
    show Gd p.tables e below _ (T7.setTop (mkF m 39 #[.val (.ref a1), .val (.int p2), .val (.int (2 : Int32)), .val (.int p4)] []))
    refine Gd.st (fun _ k => XS.iloadN X7.here hx rfl (hb hby d2_39) rfl k) ?_
    show Gd p.tables e below _ (T7.setTop (mkF m 40 #[.val (.ref a1), .val (.int p2), .val (.int (2 : Int32)), .val (.int p4)] [(.int (2 : Int32))]))
    refine Gd.st (fun _ k => XS.iconst X7.here hx rfl (hb hby d2_40) k) ?_
    show Gd p.tables e below _ (T7.setTop (mkF m 41 #[.val (.ref a1), .val (.int p2), .val (.int (2 : Int32)), .val (.int p4)] [(.int (3 : Int32)), (.int (2 : Int32))]))
    refine Gd.st (fun _ k => XS.icmpYes X7.here hx rfl (pc0 := 41) (pc' := 54) rfl (hb hby d2_41) rfl (flt (by decide)).2.2.2 (by decide) (by decide) k) ?_
    show Gd p.tables e below _ (T7.setTop (mkF m 54 #[.val (.ref a1), .val (.int p2), .val (.int (2 : Int32)), .val (.int p4)] []))
    obtain ⟨fs, hr, hrun, hended, hW, hsame⟩ := X7.leave (v := none) (fun _ => rfl) Bd.notSynchronized
    refine Gd.mk (o := .returned (none)) (X7.returnOut hx Bd.returns (hb hby d2_54) hr) ⟨hrun, hended, _, _, rfl, ?_, ⟨_, rfl⟩, hW, hsame.mono (by decide) (by decide)⟩
    show Q2 Z a1 p2 (2 : Int32) p4 k1 f1 h0 n0 _ T7.heap _
    rw [e7]
    exact ⟨rfl, N7, K9, (by unfold own_place; rw [own_pl2]; exact Va_7)⟩
  · skip
    show Gd p.tables e below _ (s₁.setTop (mkF m 0 #[.val (.ref a1), .val (.int p2), .val (.int (3 : Int32)), .val (.int p4)] []))
    refine Gd.st (fun _ k => XS.iloadN X0.here hx rfl (hb hby d2_0) rfl k) ?_
    show Gd p.tables e below _ (s₁.setTop (mkF m 1 #[.val (.ref a1), .val (.int p2), .val (.int (3 : Int32)), .val (.int p4)] [(.int (3 : Int32))]))
    refine Gd.st (fun _ k => XS.ifNo X0.here hx rfl (hb hby d2_1) rfl ((if0 _ _).trans (tlt (by decide)).2.2.2) k) ?_
    show Gd p.tables e below _ (s₁.setTop (mkF m 4 #[.val (.ref a1), .val (.int p2), .val (.int (3 : Int32)), .val (.int p4)] []))
    refine Gd.st (fun _ k => XS.aloadN X0.here hx rfl (hb hby d2_4) rfl rfl k) ?_
    show Gd p.tables e below _ (s₁.setTop (mkF m 5 #[.val (.ref a1), .val (.int p2), .val (.int (3 : Int32)), .val (.int p4)] [(.ref a1)]))
    refine Gd.st (fun _ k => XS.iloadN X0.here hx rfl (hb hby d2_5) rfl k) ?_
    show Gd p.tables e below _ (s₁.setTop (mkF m 6 #[.val (.ref a1), .val (.int p2), .val (.int (3 : Int32)), .val (.int p4)] [(.int p2), (.ref a1)]))
    refine Gd.st (fun _ k => XS.iloadN X0.here hx rfl (hb hby d2_6) rfl k) ?_
    show Gd p.tables e below _ (s₁.setTop (mkF m 7 #[.val (.ref a1), .val (.int p2), .val (.int (3 : Int32)), .val (.int p4)] [(.int p4), (.int p2), (.ref a1)]))
    refine Gd.st (fun _ k => XS.i2b X0.here hx rfl (hb hby d2_7) rfl k) ?_
    show Gd p.tables e below _ (s₁.setTop (mkF m 8 #[.val (.ref a1), .val (.int p2), .val (.int (3 : Int32)), .val (.int p4)] [(.int (p4.toInt8.toInt32)), (.int p2), (.ref a1)]))
    obtain ⟨cl_10, Ar_10, q_10, S_10, N_10, H_10, G_10⟩ := id V0
    have hib_10 : ¬ p2 < 0 ∧ p2 < (8 : Int32) := own_inb _ (by omega)
    obtain ⟨T10, h10, X10, e10, W10, st10⟩ := stB X0 hx hZ e0 Ar_10 (j := p2) (inb_of S_10 hib_10) (g := (mkF m 8 #[.val (.ref a1), .val (.int p2), .val (.int (3 : Int32)), .val (.int p4)] [(.int (p4.toInt8.toInt32)), (.int p2), (.ref a1)])) rfl rfl (hb hby d2_8)
    refine Gd.st st10 ?_
    have Va_10 : Arv Z h10 a1 k1 .byte (8 : Int32) (own_vs (own_up f1 p2.toNatClampNeg (own_by p4))) (.int (0 : Int32)) := own_put Ar_10 q_10 S_10 N_10 H_10 G_10 W10 (own_lt _ hib_10)
    have N10 := Fr.snoc X10 N0 g_a1
    have Z11 : n0 ≤ h10.size := Nat.le_trans Z0 (Keep.of_wr W10).1
    have K12 : Keep h0 h10 [a1] := (Keep.refl h0 [a1]).wr W10 (Or.inl (List.mem_of_getElem? (i := 0) rfl))
    show Gd p.tables e below _ (T10.setTop (mkF m 9 #[.val (.ref a1), .val (.int p2), .val (.int (3 : Int32)), .val (.int p4)] []))
    refine Gd.st (fun _ k => XS.iloadN X10.here hx rfl (hb hby d2_9) rfl k) ?_
    show Gd p.tables e below _ (T10.setTop (mkF m 10 #[.val (.ref a1), .val (.int p2), .val (.int (3 : Int32)), .val (.int p4)] [(.int (3 : Int32))]))
    refine Gd.st (fun _ k => XS.iconst X10.here hx rfl (hb hby d2_10) k) ?_
    show Gd p.tables e below _ (T10.setTop (mkF m 11 #[.val (.ref a1), .val (.int p2), .val (.int (3 : Int32)), .val (.int p4)] [(.int (1 : Int32)), (.int (3 : Int32))]))
    refine Gd.st (fun _ k => XS.icmpNo X10.here hx rfl (hb hby d2_11) rfl (tlt (by decide)).2.2.2 k) ?_
    show Gd p.tables e below _ (T10.setTop (mkF m 14 #[.val (.ref a1), .val (.int p2), .val (.int (3 : Int32)), .val (.int p4)] []))
    refine Gd.st (fun _ k => XS.aloadN X10.here hx rfl (hb hby d2_14) rfl rfl k) ?_
    show Gd p.tables e below _ (T10.setTop (mkF m 15 #[.val (.ref a1), .val (.int p2), .val (.int (3 : Int32)), .val (.int p4)] [(.ref a1)]))
    refine Gd.st (fun _ k => XS.iloadN X10.here hx rfl (hb hby d2_15) rfl k) ?_
    show Gd p.tables e below _ (T10.setTop (mkF m 16 #[.val (.ref a1), .val (.int p2), .val (.int (3 : Int32)), .val (.int p4)] [(.int p2), (.ref a1)]))
    refine Gd.st (fun _ k => XS.iconst X10.here hx rfl (hb hby d2_16) k) ?_
    show Gd p.tables e below _ (T10.setTop (mkF m 17 #[.val (.ref a1), .val (.int p2), .val (.int (3 : Int32)), .val (.int p4)] [(.int (1 : Int32)), (.int p2), (.ref a1)]))
    refine Gd.st (fun _ k => XS.iadd X10.here hx rfl (hb hby d2_17) rfl k) ?_
    show Gd p.tables e below _ (T10.setTop (mkF m 18 #[.val (.ref a1), .val (.int p2), .val (.int (3 : Int32)), .val (.int p4)] [(.int (p2 + (1 : Int32))), (.ref a1)]))
    refine Gd.st (fun _ k => XS.iloadN X10.here hx rfl (hb hby d2_18) rfl k) ?_
    show Gd p.tables e below _ (T10.setTop (mkF m 19 #[.val (.ref a1), .val (.int p2), .val (.int (3 : Int32)), .val (.int p4)] [(.int p4), (.int (p2 + (1 : Int32))), (.ref a1)]))
    refine Gd.st (fun _ k => XS.bipush X10.here hx rfl (hb hby d2_19) k) ?_
    show Gd p.tables e below _ (T10.setTop (mkF m 21 #[.val (.ref a1), .val (.int p2), .val (.int (3 : Int32)), .val (.int p4)] [(.int (8 : Int32)), (.int p4), (.int (p2 + (1 : Int32))), (.ref a1)]))
    refine Gd.st (fun _ k => XS.iushr X10.here hx rfl (hb hby d2_21) rfl k) ?_
    show Gd p.tables e below _ (T10.setTop (mkF m 22 #[.val (.ref a1), .val (.int p2), .val (.int (3 : Int32)), .val (.int p4)] [(.int (own_sh p4 (8 : Int32))), (.int (p2 + (1 : Int32))), (.ref a1)]))
    refine Gd.st (fun _ k => XS.i2b X10.here hx rfl (hb hby d2_22) rfl k) ?_
    show Gd p.tables e below _ (T10.setTop (mkF m 23 #[.val (.ref a1), .val (.int p2), .val (.int (3 : Int32)), .val (.int p4)] [(.int ((own_sh p4 (8 : Int32)).toInt8.toInt32)), (.int (p2 + (1 : Int32))), (.ref a1)]))
    obtain ⟨cl_13, Ar_13, q_13, S_13, N_13, H_13, G_13⟩ := id Va_10
    have hib_13 : ¬ (p2 + (1 : Int32)) < 0 ∧ (p2 + (1 : Int32)) < (8 : Int32) := own_ibk _ _ hf (by decide)
    obtain ⟨T13, h13, X13, e13, W13, st13⟩ := stB X10 hx hZ e10 Ar_13 (j := (p2 + (1 : Int32))) (inb_of S_13 hib_13) (g := (mkF m 23 #[.val (.ref a1), .val (.int p2), .val (.int (3 : Int32)), .val (.int p4)] [(.int ((own_sh p4 (8 : Int32)).toInt8.toInt32)), (.int (p2 + (1 : Int32))), (.ref a1)])) rfl rfl (hb hby d2_23)
    refine Gd.st st13 ?_
    have Va_13 : Arv Z h13 a1 k1 .byte (8 : Int32) (own_vs (own_up (own_up f1 p2.toNatClampNeg (own_by p4)) (p2 + (1 : Int32)).toNatClampNeg (own_by (own_sh p4 (8 : Int32))))) (.int (0 : Int32)) := own_put Ar_13 q_13 S_13 N_13 H_13 G_13 W13 (own_lt _ hib_13)
    have N13 := Fr.snoc X13 N10 g_a1
    have Z14 : n0 ≤ h13.size := Nat.le_trans Z11 (Keep.of_wr W13).1
    have K15 : Keep h0 h13 [a1] := K12.wr W13 (Or.inl (List.mem_of_getElem? (i := 0) rfl))
    show Gd p.tables e below _ (T13.setTop (mkF m 24 #[.val (.ref a1), .val (.int p2), .val (.int (3 : Int32)), .val (.int p4)] []))
    refine Gd.st (fun _ k => XS.iloadN X13.here hx rfl (hb hby d2_24) rfl k) ?_
    show Gd p.tables e below _ (T13.setTop (mkF m 25 #[.val (.ref a1), .val (.int p2), .val (.int (3 : Int32)), .val (.int p4)] [(.int (3 : Int32))]))
    refine Gd.st (fun _ k => XS.iconst X13.here hx rfl (hb hby d2_25) k) ?_
    show Gd p.tables e below _ (T13.setTop (mkF m 26 #[.val (.ref a1), .val (.int p2), .val (.int (3 : Int32)), .val (.int p4)] [(.int (2 : Int32)), (.int (3 : Int32))]))
    refine Gd.st (fun _ k => XS.icmpNo X13.here hx rfl (hb hby d2_26) rfl (tlt (by decide)).2.2.2 k) ?_
    show Gd p.tables e below _ (T13.setTop (mkF m 29 #[.val (.ref a1), .val (.int p2), .val (.int (3 : Int32)), .val (.int p4)] []))
    refine Gd.st (fun _ k => XS.aloadN X13.here hx rfl (hb hby d2_29) rfl rfl k) ?_
    show Gd p.tables e below _ (T13.setTop (mkF m 30 #[.val (.ref a1), .val (.int p2), .val (.int (3 : Int32)), .val (.int p4)] [(.ref a1)]))
    refine Gd.st (fun _ k => XS.iloadN X13.here hx rfl (hb hby d2_30) rfl k) ?_
    show Gd p.tables e below _ (T13.setTop (mkF m 31 #[.val (.ref a1), .val (.int p2), .val (.int (3 : Int32)), .val (.int p4)] [(.int p2), (.ref a1)]))
    refine Gd.st (fun _ k => XS.iconst X13.here hx rfl (hb hby d2_31) k) ?_
    show Gd p.tables e below _ (T13.setTop (mkF m 32 #[.val (.ref a1), .val (.int p2), .val (.int (3 : Int32)), .val (.int p4)] [(.int (2 : Int32)), (.int p2), (.ref a1)]))
    refine Gd.st (fun _ k => XS.iadd X13.here hx rfl (hb hby d2_32) rfl k) ?_
    show Gd p.tables e below _ (T13.setTop (mkF m 33 #[.val (.ref a1), .val (.int p2), .val (.int (3 : Int32)), .val (.int p4)] [(.int (p2 + (2 : Int32))), (.ref a1)]))
    refine Gd.st (fun _ k => XS.iloadN X13.here hx rfl (hb hby d2_33) rfl k) ?_
    show Gd p.tables e below _ (T13.setTop (mkF m 34 #[.val (.ref a1), .val (.int p2), .val (.int (3 : Int32)), .val (.int p4)] [(.int p4), (.int (p2 + (2 : Int32))), (.ref a1)]))
    refine Gd.st (fun _ k => XS.bipush X13.here hx rfl (hb hby d2_34) k) ?_
    show Gd p.tables e below _ (T13.setTop (mkF m 36 #[.val (.ref a1), .val (.int p2), .val (.int (3 : Int32)), .val (.int p4)] [(.int (16 : Int32)), (.int p4), (.int (p2 + (2 : Int32))), (.ref a1)]))
    refine Gd.st (fun _ k => XS.iushr X13.here hx rfl (hb hby d2_36) rfl k) ?_
    show Gd p.tables e below _ (T13.setTop (mkF m 37 #[.val (.ref a1), .val (.int p2), .val (.int (3 : Int32)), .val (.int p4)] [(.int (own_sh p4 (16 : Int32))), (.int (p2 + (2 : Int32))), (.ref a1)]))
    refine Gd.st (fun _ k => XS.i2b X13.here hx rfl (hb hby d2_37) rfl k) ?_
    show Gd p.tables e below _ (T13.setTop (mkF m 38 #[.val (.ref a1), .val (.int p2), .val (.int (3 : Int32)), .val (.int p4)] [(.int ((own_sh p4 (16 : Int32)).toInt8.toInt32)), (.int (p2 + (2 : Int32))), (.ref a1)]))
    obtain ⟨cl_16, Ar_16, q_16, S_16, N_16, H_16, G_16⟩ := id Va_13
    have hib_16 : ¬ (p2 + (2 : Int32)) < 0 ∧ (p2 + (2 : Int32)) < (8 : Int32) := own_ibk _ _ hf (by decide)
    obtain ⟨T16, h16, X16, e16, W16, st16⟩ := stB X13 hx hZ e13 Ar_16 (j := (p2 + (2 : Int32))) (inb_of S_16 hib_16) (g := (mkF m 38 #[.val (.ref a1), .val (.int p2), .val (.int (3 : Int32)), .val (.int p4)] [(.int ((own_sh p4 (16 : Int32)).toInt8.toInt32)), (.int (p2 + (2 : Int32))), (.ref a1)])) rfl rfl (hb hby d2_38)
    refine Gd.st st16 ?_
    have Va_16 : Arv Z h16 a1 k1 .byte (8 : Int32) (own_vs (own_up (own_up (own_up f1 p2.toNatClampNeg (own_by p4)) (p2 + (1 : Int32)).toNatClampNeg (own_by (own_sh p4 (8 : Int32)))) (p2 + (2 : Int32)).toNatClampNeg (own_by (own_sh p4 (16 : Int32))))) (.int (0 : Int32)) := own_put Ar_16 q_16 S_16 N_16 H_16 G_16 W16 (own_lt _ hib_16)
    have N16 := Fr.snoc X16 N13 g_a1
    have Z17 : n0 ≤ h16.size := Nat.le_trans Z14 (Keep.of_wr W16).1
    have K18 : Keep h0 h16 [a1] := K15.wr W16 (Or.inl (List.mem_of_getElem? (i := 0) rfl))
    show Gd p.tables e below _ (T16.setTop (mkF m 39 #[.val (.ref a1), .val (.int p2), .val (.int (3 : Int32)), .val (.int p4)] []))
    refine Gd.st (fun _ k => XS.iloadN X16.here hx rfl (hb hby d2_39) rfl k) ?_
    show Gd p.tables e below _ (T16.setTop (mkF m 40 #[.val (.ref a1), .val (.int p2), .val (.int (3 : Int32)), .val (.int p4)] [(.int (3 : Int32))]))
    refine Gd.st (fun _ k => XS.iconst X16.here hx rfl (hb hby d2_40) k) ?_
    show Gd p.tables e below _ (T16.setTop (mkF m 41 #[.val (.ref a1), .val (.int p2), .val (.int (3 : Int32)), .val (.int p4)] [(.int (3 : Int32)), (.int (3 : Int32))]))
    refine Gd.st (fun _ k => XS.icmpYes X16.here hx rfl (pc0 := 41) (pc' := 54) rfl (hb hby d2_41) rfl (flt (by decide)).2.2.2 (by decide) (by decide) k) ?_
    show Gd p.tables e below _ (T16.setTop (mkF m 54 #[.val (.ref a1), .val (.int p2), .val (.int (3 : Int32)), .val (.int p4)] []))
    obtain ⟨fs, hr, hrun, hended, hW, hsame⟩ := X16.leave (v := none) (fun _ => rfl) Bd.notSynchronized
    refine Gd.mk (o := .returned (none)) (X16.returnOut hx Bd.returns (hb hby d2_54) hr) ⟨hrun, hended, _, _, rfl, ?_, ⟨_, rfl⟩, hW, hsame.mono (by decide) (by decide)⟩
    show Q2 Z a1 p2 (3 : Int32) p4 k1 f1 h0 n0 _ T16.heap _
    rw [e16]
    exact ⟨rfl, N16, K18, (by unfold own_place; rw [own_pl3]; exact Va_16)⟩
  · skip
    show Gd p.tables e below _ (s₁.setTop (mkF m 0 #[.val (.ref a1), .val (.int p2), .val (.int (4 : Int32)), .val (.int p4)] []))
    refine Gd.st (fun _ k => XS.iloadN X0.here hx rfl (hb hby d2_0) rfl k) ?_
    show Gd p.tables e below _ (s₁.setTop (mkF m 1 #[.val (.ref a1), .val (.int p2), .val (.int (4 : Int32)), .val (.int p4)] [(.int (4 : Int32))]))
    refine Gd.st (fun _ k => XS.ifNo X0.here hx rfl (hb hby d2_1) rfl ((if0 _ _).trans (tlt (by decide)).2.2.2) k) ?_
    show Gd p.tables e below _ (s₁.setTop (mkF m 4 #[.val (.ref a1), .val (.int p2), .val (.int (4 : Int32)), .val (.int p4)] []))
    refine Gd.st (fun _ k => XS.aloadN X0.here hx rfl (hb hby d2_4) rfl rfl k) ?_
    show Gd p.tables e below _ (s₁.setTop (mkF m 5 #[.val (.ref a1), .val (.int p2), .val (.int (4 : Int32)), .val (.int p4)] [(.ref a1)]))
    refine Gd.st (fun _ k => XS.iloadN X0.here hx rfl (hb hby d2_5) rfl k) ?_
    show Gd p.tables e below _ (s₁.setTop (mkF m 6 #[.val (.ref a1), .val (.int p2), .val (.int (4 : Int32)), .val (.int p4)] [(.int p2), (.ref a1)]))
    refine Gd.st (fun _ k => XS.iloadN X0.here hx rfl (hb hby d2_6) rfl k) ?_
    show Gd p.tables e below _ (s₁.setTop (mkF m 7 #[.val (.ref a1), .val (.int p2), .val (.int (4 : Int32)), .val (.int p4)] [(.int p4), (.int p2), (.ref a1)]))
    refine Gd.st (fun _ k => XS.i2b X0.here hx rfl (hb hby d2_7) rfl k) ?_
    show Gd p.tables e below _ (s₁.setTop (mkF m 8 #[.val (.ref a1), .val (.int p2), .val (.int (4 : Int32)), .val (.int p4)] [(.int (p4.toInt8.toInt32)), (.int p2), (.ref a1)]))
    obtain ⟨cl_19, Ar_19, q_19, S_19, N_19, H_19, G_19⟩ := id V0
    have hib_19 : ¬ p2 < 0 ∧ p2 < (8 : Int32) := own_inb _ (by omega)
    obtain ⟨T19, h19, X19, e19, W19, st19⟩ := stB X0 hx hZ e0 Ar_19 (j := p2) (inb_of S_19 hib_19) (g := (mkF m 8 #[.val (.ref a1), .val (.int p2), .val (.int (4 : Int32)), .val (.int p4)] [(.int (p4.toInt8.toInt32)), (.int p2), (.ref a1)])) rfl rfl (hb hby d2_8)
    refine Gd.st st19 ?_
    have Va_19 : Arv Z h19 a1 k1 .byte (8 : Int32) (own_vs (own_up f1 p2.toNatClampNeg (own_by p4))) (.int (0 : Int32)) := own_put Ar_19 q_19 S_19 N_19 H_19 G_19 W19 (own_lt _ hib_19)
    have N19 := Fr.snoc X19 N0 g_a1
    have Z20 : n0 ≤ h19.size := Nat.le_trans Z0 (Keep.of_wr W19).1
    have K21 : Keep h0 h19 [a1] := (Keep.refl h0 [a1]).wr W19 (Or.inl (List.mem_of_getElem? (i := 0) rfl))
    show Gd p.tables e below _ (T19.setTop (mkF m 9 #[.val (.ref a1), .val (.int p2), .val (.int (4 : Int32)), .val (.int p4)] []))
    refine Gd.st (fun _ k => XS.iloadN X19.here hx rfl (hb hby d2_9) rfl k) ?_
    show Gd p.tables e below _ (T19.setTop (mkF m 10 #[.val (.ref a1), .val (.int p2), .val (.int (4 : Int32)), .val (.int p4)] [(.int (4 : Int32))]))
    refine Gd.st (fun _ k => XS.iconst X19.here hx rfl (hb hby d2_10) k) ?_
    show Gd p.tables e below _ (T19.setTop (mkF m 11 #[.val (.ref a1), .val (.int p2), .val (.int (4 : Int32)), .val (.int p4)] [(.int (1 : Int32)), (.int (4 : Int32))]))
    refine Gd.st (fun _ k => XS.icmpNo X19.here hx rfl (hb hby d2_11) rfl (tlt (by decide)).2.2.2 k) ?_
    show Gd p.tables e below _ (T19.setTop (mkF m 14 #[.val (.ref a1), .val (.int p2), .val (.int (4 : Int32)), .val (.int p4)] []))
    refine Gd.st (fun _ k => XS.aloadN X19.here hx rfl (hb hby d2_14) rfl rfl k) ?_
    show Gd p.tables e below _ (T19.setTop (mkF m 15 #[.val (.ref a1), .val (.int p2), .val (.int (4 : Int32)), .val (.int p4)] [(.ref a1)]))
    refine Gd.st (fun _ k => XS.iloadN X19.here hx rfl (hb hby d2_15) rfl k) ?_
    show Gd p.tables e below _ (T19.setTop (mkF m 16 #[.val (.ref a1), .val (.int p2), .val (.int (4 : Int32)), .val (.int p4)] [(.int p2), (.ref a1)]))
    refine Gd.st (fun _ k => XS.iconst X19.here hx rfl (hb hby d2_16) k) ?_
    show Gd p.tables e below _ (T19.setTop (mkF m 17 #[.val (.ref a1), .val (.int p2), .val (.int (4 : Int32)), .val (.int p4)] [(.int (1 : Int32)), (.int p2), (.ref a1)]))
    refine Gd.st (fun _ k => XS.iadd X19.here hx rfl (hb hby d2_17) rfl k) ?_
    show Gd p.tables e below _ (T19.setTop (mkF m 18 #[.val (.ref a1), .val (.int p2), .val (.int (4 : Int32)), .val (.int p4)] [(.int (p2 + (1 : Int32))), (.ref a1)]))
    refine Gd.st (fun _ k => XS.iloadN X19.here hx rfl (hb hby d2_18) rfl k) ?_
    show Gd p.tables e below _ (T19.setTop (mkF m 19 #[.val (.ref a1), .val (.int p2), .val (.int (4 : Int32)), .val (.int p4)] [(.int p4), (.int (p2 + (1 : Int32))), (.ref a1)]))
    refine Gd.st (fun _ k => XS.bipush X19.here hx rfl (hb hby d2_19) k) ?_
    show Gd p.tables e below _ (T19.setTop (mkF m 21 #[.val (.ref a1), .val (.int p2), .val (.int (4 : Int32)), .val (.int p4)] [(.int (8 : Int32)), (.int p4), (.int (p2 + (1 : Int32))), (.ref a1)]))
    refine Gd.st (fun _ k => XS.iushr X19.here hx rfl (hb hby d2_21) rfl k) ?_
    show Gd p.tables e below _ (T19.setTop (mkF m 22 #[.val (.ref a1), .val (.int p2), .val (.int (4 : Int32)), .val (.int p4)] [(.int (own_sh p4 (8 : Int32))), (.int (p2 + (1 : Int32))), (.ref a1)]))
    refine Gd.st (fun _ k => XS.i2b X19.here hx rfl (hb hby d2_22) rfl k) ?_
    show Gd p.tables e below _ (T19.setTop (mkF m 23 #[.val (.ref a1), .val (.int p2), .val (.int (4 : Int32)), .val (.int p4)] [(.int ((own_sh p4 (8 : Int32)).toInt8.toInt32)), (.int (p2 + (1 : Int32))), (.ref a1)]))
    obtain ⟨cl_22, Ar_22, q_22, S_22, N_22, H_22, G_22⟩ := id Va_19
    have hib_22 : ¬ (p2 + (1 : Int32)) < 0 ∧ (p2 + (1 : Int32)) < (8 : Int32) := own_ibk _ _ hf (by decide)
    obtain ⟨T22, h22, X22, e22, W22, st22⟩ := stB X19 hx hZ e19 Ar_22 (j := (p2 + (1 : Int32))) (inb_of S_22 hib_22) (g := (mkF m 23 #[.val (.ref a1), .val (.int p2), .val (.int (4 : Int32)), .val (.int p4)] [(.int ((own_sh p4 (8 : Int32)).toInt8.toInt32)), (.int (p2 + (1 : Int32))), (.ref a1)])) rfl rfl (hb hby d2_23)
    refine Gd.st st22 ?_
    have Va_22 : Arv Z h22 a1 k1 .byte (8 : Int32) (own_vs (own_up (own_up f1 p2.toNatClampNeg (own_by p4)) (p2 + (1 : Int32)).toNatClampNeg (own_by (own_sh p4 (8 : Int32))))) (.int (0 : Int32)) := own_put Ar_22 q_22 S_22 N_22 H_22 G_22 W22 (own_lt _ hib_22)
    have N22 := Fr.snoc X22 N19 g_a1
    have Z23 : n0 ≤ h22.size := Nat.le_trans Z20 (Keep.of_wr W22).1
    have K24 : Keep h0 h22 [a1] := K21.wr W22 (Or.inl (List.mem_of_getElem? (i := 0) rfl))
    show Gd p.tables e below _ (T22.setTop (mkF m 24 #[.val (.ref a1), .val (.int p2), .val (.int (4 : Int32)), .val (.int p4)] []))
    refine Gd.st (fun _ k => XS.iloadN X22.here hx rfl (hb hby d2_24) rfl k) ?_
    show Gd p.tables e below _ (T22.setTop (mkF m 25 #[.val (.ref a1), .val (.int p2), .val (.int (4 : Int32)), .val (.int p4)] [(.int (4 : Int32))]))
    refine Gd.st (fun _ k => XS.iconst X22.here hx rfl (hb hby d2_25) k) ?_
    show Gd p.tables e below _ (T22.setTop (mkF m 26 #[.val (.ref a1), .val (.int p2), .val (.int (4 : Int32)), .val (.int p4)] [(.int (2 : Int32)), (.int (4 : Int32))]))
    refine Gd.st (fun _ k => XS.icmpNo X22.here hx rfl (hb hby d2_26) rfl (tlt (by decide)).2.2.2 k) ?_
    show Gd p.tables e below _ (T22.setTop (mkF m 29 #[.val (.ref a1), .val (.int p2), .val (.int (4 : Int32)), .val (.int p4)] []))
    refine Gd.st (fun _ k => XS.aloadN X22.here hx rfl (hb hby d2_29) rfl rfl k) ?_
    show Gd p.tables e below _ (T22.setTop (mkF m 30 #[.val (.ref a1), .val (.int p2), .val (.int (4 : Int32)), .val (.int p4)] [(.ref a1)]))
    refine Gd.st (fun _ k => XS.iloadN X22.here hx rfl (hb hby d2_30) rfl k) ?_
    show Gd p.tables e below _ (T22.setTop (mkF m 31 #[.val (.ref a1), .val (.int p2), .val (.int (4 : Int32)), .val (.int p4)] [(.int p2), (.ref a1)]))
    refine Gd.st (fun _ k => XS.iconst X22.here hx rfl (hb hby d2_31) k) ?_
    show Gd p.tables e below _ (T22.setTop (mkF m 32 #[.val (.ref a1), .val (.int p2), .val (.int (4 : Int32)), .val (.int p4)] [(.int (2 : Int32)), (.int p2), (.ref a1)]))
    refine Gd.st (fun _ k => XS.iadd X22.here hx rfl (hb hby d2_32) rfl k) ?_
    show Gd p.tables e below _ (T22.setTop (mkF m 33 #[.val (.ref a1), .val (.int p2), .val (.int (4 : Int32)), .val (.int p4)] [(.int (p2 + (2 : Int32))), (.ref a1)]))
    refine Gd.st (fun _ k => XS.iloadN X22.here hx rfl (hb hby d2_33) rfl k) ?_
    show Gd p.tables e below _ (T22.setTop (mkF m 34 #[.val (.ref a1), .val (.int p2), .val (.int (4 : Int32)), .val (.int p4)] [(.int p4), (.int (p2 + (2 : Int32))), (.ref a1)]))
    refine Gd.st (fun _ k => XS.bipush X22.here hx rfl (hb hby d2_34) k) ?_
    show Gd p.tables e below _ (T22.setTop (mkF m 36 #[.val (.ref a1), .val (.int p2), .val (.int (4 : Int32)), .val (.int p4)] [(.int (16 : Int32)), (.int p4), (.int (p2 + (2 : Int32))), (.ref a1)]))
    refine Gd.st (fun _ k => XS.iushr X22.here hx rfl (hb hby d2_36) rfl k) ?_
    show Gd p.tables e below _ (T22.setTop (mkF m 37 #[.val (.ref a1), .val (.int p2), .val (.int (4 : Int32)), .val (.int p4)] [(.int (own_sh p4 (16 : Int32))), (.int (p2 + (2 : Int32))), (.ref a1)]))
    refine Gd.st (fun _ k => XS.i2b X22.here hx rfl (hb hby d2_37) rfl k) ?_
    show Gd p.tables e below _ (T22.setTop (mkF m 38 #[.val (.ref a1), .val (.int p2), .val (.int (4 : Int32)), .val (.int p4)] [(.int ((own_sh p4 (16 : Int32)).toInt8.toInt32)), (.int (p2 + (2 : Int32))), (.ref a1)]))
    obtain ⟨cl_25, Ar_25, q_25, S_25, N_25, H_25, G_25⟩ := id Va_22
    have hib_25 : ¬ (p2 + (2 : Int32)) < 0 ∧ (p2 + (2 : Int32)) < (8 : Int32) := own_ibk _ _ hf (by decide)
    obtain ⟨T25, h25, X25, e25, W25, st25⟩ := stB X22 hx hZ e22 Ar_25 (j := (p2 + (2 : Int32))) (inb_of S_25 hib_25) (g := (mkF m 38 #[.val (.ref a1), .val (.int p2), .val (.int (4 : Int32)), .val (.int p4)] [(.int ((own_sh p4 (16 : Int32)).toInt8.toInt32)), (.int (p2 + (2 : Int32))), (.ref a1)])) rfl rfl (hb hby d2_38)
    refine Gd.st st25 ?_
    have Va_25 : Arv Z h25 a1 k1 .byte (8 : Int32) (own_vs (own_up (own_up (own_up f1 p2.toNatClampNeg (own_by p4)) (p2 + (1 : Int32)).toNatClampNeg (own_by (own_sh p4 (8 : Int32)))) (p2 + (2 : Int32)).toNatClampNeg (own_by (own_sh p4 (16 : Int32))))) (.int (0 : Int32)) := own_put Ar_25 q_25 S_25 N_25 H_25 G_25 W25 (own_lt _ hib_25)
    have N25 := Fr.snoc X25 N22 g_a1
    have Z26 : n0 ≤ h25.size := Nat.le_trans Z23 (Keep.of_wr W25).1
    have K27 : Keep h0 h25 [a1] := K24.wr W25 (Or.inl (List.mem_of_getElem? (i := 0) rfl))
    show Gd p.tables e below _ (T25.setTop (mkF m 39 #[.val (.ref a1), .val (.int p2), .val (.int (4 : Int32)), .val (.int p4)] []))
    refine Gd.st (fun _ k => XS.iloadN X25.here hx rfl (hb hby d2_39) rfl k) ?_
    show Gd p.tables e below _ (T25.setTop (mkF m 40 #[.val (.ref a1), .val (.int p2), .val (.int (4 : Int32)), .val (.int p4)] [(.int (4 : Int32))]))
    refine Gd.st (fun _ k => XS.iconst X25.here hx rfl (hb hby d2_40) k) ?_
    show Gd p.tables e below _ (T25.setTop (mkF m 41 #[.val (.ref a1), .val (.int p2), .val (.int (4 : Int32)), .val (.int p4)] [(.int (3 : Int32)), (.int (4 : Int32))]))
    refine Gd.st (fun _ k => XS.icmpNo X25.here hx rfl (hb hby d2_41) rfl (tlt (by decide)).2.2.2 k) ?_
    show Gd p.tables e below _ (T25.setTop (mkF m 44 #[.val (.ref a1), .val (.int p2), .val (.int (4 : Int32)), .val (.int p4)] []))
    refine Gd.st (fun _ k => XS.aloadN X25.here hx rfl (hb hby d2_44) rfl rfl k) ?_
    show Gd p.tables e below _ (T25.setTop (mkF m 45 #[.val (.ref a1), .val (.int p2), .val (.int (4 : Int32)), .val (.int p4)] [(.ref a1)]))
    refine Gd.st (fun _ k => XS.iloadN X25.here hx rfl (hb hby d2_45) rfl k) ?_
    show Gd p.tables e below _ (T25.setTop (mkF m 46 #[.val (.ref a1), .val (.int p2), .val (.int (4 : Int32)), .val (.int p4)] [(.int p2), (.ref a1)]))
    refine Gd.st (fun _ k => XS.iconst X25.here hx rfl (hb hby d2_46) k) ?_
    show Gd p.tables e below _ (T25.setTop (mkF m 47 #[.val (.ref a1), .val (.int p2), .val (.int (4 : Int32)), .val (.int p4)] [(.int (3 : Int32)), (.int p2), (.ref a1)]))
    refine Gd.st (fun _ k => XS.iadd X25.here hx rfl (hb hby d2_47) rfl k) ?_
    show Gd p.tables e below _ (T25.setTop (mkF m 48 #[.val (.ref a1), .val (.int p2), .val (.int (4 : Int32)), .val (.int p4)] [(.int (p2 + (3 : Int32))), (.ref a1)]))
    refine Gd.st (fun _ k => XS.iloadN X25.here hx rfl (hb hby d2_48) rfl k) ?_
    show Gd p.tables e below _ (T25.setTop (mkF m 49 #[.val (.ref a1), .val (.int p2), .val (.int (4 : Int32)), .val (.int p4)] [(.int p4), (.int (p2 + (3 : Int32))), (.ref a1)]))
    refine Gd.st (fun _ k => XS.bipush X25.here hx rfl (hb hby d2_49) k) ?_
    show Gd p.tables e below _ (T25.setTop (mkF m 51 #[.val (.ref a1), .val (.int p2), .val (.int (4 : Int32)), .val (.int p4)] [(.int (24 : Int32)), (.int p4), (.int (p2 + (3 : Int32))), (.ref a1)]))
    refine Gd.st (fun _ k => XS.iushr X25.here hx rfl (hb hby d2_51) rfl k) ?_
    show Gd p.tables e below _ (T25.setTop (mkF m 52 #[.val (.ref a1), .val (.int p2), .val (.int (4 : Int32)), .val (.int p4)] [(.int (own_sh p4 (24 : Int32))), (.int (p2 + (3 : Int32))), (.ref a1)]))
    refine Gd.st (fun _ k => XS.i2b X25.here hx rfl (hb hby d2_52) rfl k) ?_
    show Gd p.tables e below _ (T25.setTop (mkF m 53 #[.val (.ref a1), .val (.int p2), .val (.int (4 : Int32)), .val (.int p4)] [(.int ((own_sh p4 (24 : Int32)).toInt8.toInt32)), (.int (p2 + (3 : Int32))), (.ref a1)]))
    obtain ⟨cl_28, Ar_28, q_28, S_28, N_28, H_28, G_28⟩ := id Va_25
    have hib_28 : ¬ (p2 + (3 : Int32)) < 0 ∧ (p2 + (3 : Int32)) < (8 : Int32) := own_ibk _ _ hf (by decide)
    obtain ⟨T28, h28, X28, e28, W28, st28⟩ := stB X25 hx hZ e25 Ar_28 (j := (p2 + (3 : Int32))) (inb_of S_28 hib_28) (g := (mkF m 53 #[.val (.ref a1), .val (.int p2), .val (.int (4 : Int32)), .val (.int p4)] [(.int ((own_sh p4 (24 : Int32)).toInt8.toInt32)), (.int (p2 + (3 : Int32))), (.ref a1)])) rfl rfl (hb hby d2_53)
    refine Gd.st st28 ?_
    have Va_28 : Arv Z h28 a1 k1 .byte (8 : Int32) (own_vs (own_up (own_up (own_up (own_up f1 p2.toNatClampNeg (own_by p4)) (p2 + (1 : Int32)).toNatClampNeg (own_by (own_sh p4 (8 : Int32)))) (p2 + (2 : Int32)).toNatClampNeg (own_by (own_sh p4 (16 : Int32)))) (p2 + (3 : Int32)).toNatClampNeg (own_by (own_sh p4 (24 : Int32))))) (.int (0 : Int32)) := own_put Ar_28 q_28 S_28 N_28 H_28 G_28 W28 (own_lt _ hib_28)
    have N28 := Fr.snoc X28 N25 g_a1
    have Z29 : n0 ≤ h28.size := Nat.le_trans Z26 (Keep.of_wr W28).1
    have K30 : Keep h0 h28 [a1] := K27.wr W28 (Or.inl (List.mem_of_getElem? (i := 0) rfl))
    show Gd p.tables e below _ (T28.setTop (mkF m 54 #[.val (.ref a1), .val (.int p2), .val (.int (4 : Int32)), .val (.int p4)] []))
    obtain ⟨fs, hr, hrun, hended, hW, hsame⟩ := X28.leave (v := none) (fun _ => rfl) Bd.notSynchronized
    refine Gd.mk (o := .returned (none)) (X28.returnOut hx Bd.returns (hb hby d2_54) hr) ⟨hrun, hended, _, _, rfl, ?_, ⟨_, rfl⟩, hW, hsame.mono (by decide) (by decide)⟩
    show Q2 Z a1 p2 (4 : Int32) p4 k1 f1 h0 n0 _ T28.heap _
    rw [e28]
    exact ⟨rfl, N28, K30, (by unfold own_place; rw [own_pl4]; exact Va_28)⟩
theorem d3_0 : decode prog_16_method_2_code 0 = .ok (.ldc2_w 7, 3) := by decide +kernel
theorem d3_3 : decode prog_16_method_2_code 3 = .ok (.lstore_n 3, 1) := by decide +kernel
theorem d3_4 : decode prog_16_method_2_code 4 = .ok (.iload_n 1, 1) := by decide +kernel
theorem d3_5 : decode prog_16_method_2_code 5 = .ok (.istore 5, 2) := by decide +kernel
theorem d3_7 : decode prog_16_method_2_code 7 = .ok (.iload 5, 2) := by decide +kernel
theorem d3_9 : decode prog_16_method_2_code 9 = .ok (.iload_n 2, 1) := by decide +kernel
theorem d3_10 : decode prog_16_method_2_code 10 = .ok (.if_icmp .ge 25, 3) := by decide +kernel
theorem d3_13 : decode prog_16_method_2_code 13 = .ok (.lload_n 3, 1) := by decide +kernel
theorem d3_14 : decode prog_16_method_2_code 14 = .ok (.aload_n 0, 1) := by decide +kernel
theorem d3_15 : decode prog_16_method_2_code 15 = .ok (.iload 5, 2) := by decide +kernel
theorem d3_17 : decode prog_16_method_2_code 17 = .ok (.baload, 1) := by decide +kernel
theorem d3_18 : decode prog_16_method_2_code 18 = .ok (.sipush 255, 3) := by decide +kernel
theorem d3_21 : decode prog_16_method_2_code 21 = .ok (.iand, 1) := by decide +kernel
theorem d3_22 : decode prog_16_method_2_code 22 = .ok (.i2l, 1) := by decide +kernel
theorem d3_23 : decode prog_16_method_2_code 23 = .ok (.lxor, 1) := by decide +kernel
theorem d3_24 : decode prog_16_method_2_code 24 = .ok (.ldc2_w 9, 3) := by decide +kernel
theorem d3_27 : decode prog_16_method_2_code 27 = .ok (.lmul, 1) := by decide +kernel
theorem d3_28 : decode prog_16_method_2_code 28 = .ok (.lstore_n 3, 1) := by decide +kernel
theorem d3_29 : decode prog_16_method_2_code 29 = .ok (.iinc 5 1, 3) := by decide +kernel
theorem d3_32 : decode prog_16_method_2_code 32 = .ok (.goto (-25), 3) := by decide +kernel
theorem d3_35 : decode prog_16_method_2_code 35 = .ok (.lload_n 3, 1) := by decide +kernel
theorem d3_36 : decode prog_16_method_2_code 36 = .ok (.lload_n 3, 1) := by decide +kernel
theorem d3_37 : decode prog_16_method_2_code 37 = .ok (.bipush 33, 2) := by decide +kernel
theorem d3_39 : decode prog_16_method_2_code 39 = .ok (.lushr, 1) := by decide +kernel
theorem d3_40 : decode prog_16_method_2_code 40 = .ok (.lxor, 1) := by decide +kernel
theorem d3_41 : decode prog_16_method_2_code 41 = .ok (.lstore_n 3, 1) := by decide +kernel
theorem d3_42 : decode prog_16_method_2_code 42 = .ok (.lload_n 3, 1) := by decide +kernel
theorem d3_43 : decode prog_16_method_2_code 43 = .ok (.ldc2_w 11, 3) := by decide +kernel
theorem d3_46 : decode prog_16_method_2_code 46 = .ok (.lmul, 1) := by decide +kernel
theorem d3_47 : decode prog_16_method_2_code 47 = .ok (.lstore_n 3, 1) := by decide +kernel
theorem d3_48 : decode prog_16_method_2_code 48 = .ok (.lload_n 3, 1) := by decide +kernel
theorem d3_49 : decode prog_16_method_2_code 49 = .ok (.lload_n 3, 1) := by decide +kernel
theorem d3_50 : decode prog_16_method_2_code 50 = .ok (.bipush 33, 2) := by decide +kernel
theorem d3_52 : decode prog_16_method_2_code 52 = .ok (.lushr, 1) := by decide +kernel
theorem d3_53 : decode prog_16_method_2_code 53 = .ok (.lxor, 1) := by decide +kernel
theorem d3_54 : decode prog_16_method_2_code 54 = .ok (.lstore_n 3, 1) := by decide +kernel
theorem d3_55 : decode prog_16_method_2_code 55 = .ok (.lload_n 3, 1) := by decide +kernel
theorem d3_56 : decode prog_16_method_2_code 56 = .ok (.ldc2_w 13, 3) := by decide +kernel
theorem d3_59 : decode prog_16_method_2_code 59 = .ok (.lmul, 1) := by decide +kernel
theorem d3_60 : decode prog_16_method_2_code 60 = .ok (.lstore_n 3, 1) := by decide +kernel
theorem d3_61 : decode prog_16_method_2_code 61 = .ok (.lload_n 3, 1) := by decide +kernel
theorem d3_62 : decode prog_16_method_2_code 62 = .ok (.lload_n 3, 1) := by decide +kernel
theorem d3_63 : decode prog_16_method_2_code 63 = .ok (.bipush 33, 2) := by decide +kernel
theorem d3_65 : decode prog_16_method_2_code 65 = .ok (.lushr, 1) := by decide +kernel
theorem d3_66 : decode prog_16_method_2_code 66 = .ok (.lxor, 1) := by decide +kernel
theorem d3_67 : decode prog_16_method_2_code 67 = .ok (.lreturn, 1) := by decide +kernel
set_option maxRecDepth 65536 in
set_option maxHeartbeats 40000000 in
theorem lp3 {p : Program} {l : Launch} {e : Env} {R : Room} {s : State} {m : MethodId} {args : Array Value} {below : List Frame} {meth : Method} {c : Code} {T0 : State} {locs : List Loc} {cells slots : Nat} {Z : State} {a0 : Array Value} {h0 : Heap} {P : State → Outcome → Prop} (a1 : Addr) (p2 p3 : Int32) (k1 : ClassId) (f1 : Nat → Int32) (X0 : Stand p l e R s m args below meth c T0 locs cells slots) (hx : p.tables.exec = Jvm.exec) (hZ : Z.Warmed39 s.vm) (hw : ∀ d ∈ tables_1, d.before a0 Z = true) (hby : c.code = prog_16_method_2_code) (hml : c.maxLocals = 6) (hown : s.vm.findClass "com/example/kosha/kosha/ByteHash" = some m.cls) (e0 : T0.heap = h0) (V0 : Arv Z h0 a1 k1 .byte (8 : Int32) (own_vs f1) (.int (0 : Int32))) (h8 : p3.toInt ≤ 8) : ∀ (k : Nat) (i : Int32) (hh : Int64), 0 ≤ i.toInt → i.toInt + k = p3.toInt → Gd p.tables e below P (T0.setTop (mkF m 35 #[.val (.ref a1), .val (.int p2), .val (.int p3), .val (.long (own_run f1 i.toNatClampNeg k hh)), .second, .val (.int p3)] [])) → Gd p.tables e below P (T0.setTop (mkF m 7 #[.val (.ref a1), .val (.int p2), .val (.int p3), .val (.long hh), .second, .val (.int i)] [])) := by
  intro k
  induction k with
  | zero =>
    intro i hh h1 h2 J
    obtain rfl : i = p3 := Int32.toInt_inj.mp (by omega)
    refine Gd.st (fun _ k => XS.iload X0.here hx rfl (hb hby d3_7) rfl k) ?_
    show Gd p.tables e below _ (T0.setTop (mkF m 9 #[.val (.ref a1), .val (.int p2), .val (.int i), .val (.long hh), .second, .val (.int i)] [(.int i)]))
    refine Gd.st (fun _ k => XS.iloadN X0.here hx rfl (hb hby d3_9) rfl k) ?_
    show Gd p.tables e below _ (T0.setTop (mkF m 10 #[.val (.ref a1), .val (.int p2), .val (.int i), .val (.long hh), .second, .val (.int i)] [(.int i), (.int i)]))
    refine Gd.st (fun _ k => XS.icmpYes X0.here hx rfl (pc0 := 10) (pc' := 35) rfl (hb hby d3_10) rfl (flt Int32.lt_irrefl).2.1 (by decide) (by decide) k) ?_
    show Gd p.tables e below _ (T0.setTop (mkF m 35 #[.val (.ref a1), .val (.int p2), .val (.int i), .val (.long hh), .second, .val (.int i)] []))
    rw [own_run0] at J
    exact J
  | succ k ih =>
    intro i hh h1 h2 J
    have hlt : i < p3 := by rw [Int32.lt_iff_toInt_lt]; omega
    have hi1 : (i + (1 : Int32)).toInt = i.toInt + 1 := by
      have q1 := c_iadd i (1 : Int32)
      have q2 := rng32 (i + (1 : Int32))
      rw [show (1 : Int32).toInt = 1 from rfl] at q1
      omega
    refine Gd.st (fun _ k => XS.iload X0.here hx rfl (hb hby d3_7) rfl k) ?_
    show Gd p.tables e below _ (T0.setTop (mkF m 9 #[.val (.ref a1), .val (.int p2), .val (.int p3), .val (.long hh), .second, .val (.int i)] [(.int i)]))
    refine Gd.st (fun _ k => XS.iloadN X0.here hx rfl (hb hby d3_9) rfl k) ?_
    show Gd p.tables e below _ (T0.setTop (mkF m 10 #[.val (.ref a1), .val (.int p2), .val (.int p3), .val (.long hh), .second, .val (.int i)] [(.int p3), (.int i)]))
    refine Gd.st (fun _ k => XS.icmpNo X0.here hx rfl (hb hby d3_10) rfl (tlt hlt).2.1 k) ?_
    show Gd p.tables e below _ (T0.setTop (mkF m 13 #[.val (.ref a1), .val (.int p2), .val (.int p3), .val (.long hh), .second, .val (.int i)] []))
    refine Gd.st (fun _ k => XS.lloadN X0.here hx rfl (hb hby d3_13) rfl k) ?_
    show Gd p.tables e below _ (T0.setTop (mkF m 14 #[.val (.ref a1), .val (.int p2), .val (.int p3), .val (.long hh), .second, .val (.int i)] [(.long hh)]))
    refine Gd.st (fun _ k => XS.aloadN X0.here hx rfl (hb hby d3_14) rfl rfl k) ?_
    show Gd p.tables e below _ (T0.setTop (mkF m 15 #[.val (.ref a1), .val (.int p2), .val (.int p3), .val (.long hh), .second, .val (.int i)] [(.ref a1), (.long hh)]))
    refine Gd.st (fun _ k => XS.iload X0.here hx rfl (hb hby d3_15) rfl k) ?_
    show Gd p.tables e below _ (T0.setTop (mkF m 17 #[.val (.ref a1), .val (.int p2), .val (.int p3), .val (.long hh), .second, .val (.int i)] [(.int i), (.ref a1), (.long hh)]))
    obtain ⟨cl_1, Ar_1, q_1, S_1, N_1, H_1, G_1⟩ := id V0
    have hin_1 : ¬ (i < 0 ∨ cl_1.slots.size ≤ (i).toNatClampNeg) := inb_of S_1 (own_inb _ (by omega))
    have hat_1 : cl_1.slots[(i).toNatClampNeg]? = some (.int (f1 (i).toNatClampNeg)) := H_1.at hin_1 (own_get _ _ (own_lt _ (own_inb _ (by omega))))
    refine Gd.st (fun _ k => X0.baloadBytes hx (j := i) (v := (.int (f1 (i).toNatClampNeg))) (by rw [e0]; exact Ar_1.1) (State.isArrayOf_alike hZ.alike Ar_1.2.1) Ar_1.2.2 hin_1 hat_1 (g := (mkF m 17 #[.val (.ref a1), .val (.int p2), .val (.int p3), .val (.long hh), .second, .val (.int i)] [(.int i), (.ref a1), (.long hh)])) rfl rfl (hb hby d3_17) _ k) ?_
    show Gd p.tables e below _ (T0.setTop (mkF m 18 #[.val (.ref a1), .val (.int p2), .val (.int p3), .val (.long hh), .second, .val (.int i)] [(.int (f1 (i).toNatClampNeg)), (.long hh)]))
    refine Gd.st (fun _ k => XS.sipush X0.here hx rfl (hb hby d3_18) k) ?_
    show Gd p.tables e below _ (T0.setTop (mkF m 21 #[.val (.ref a1), .val (.int p2), .val (.int p3), .val (.long hh), .second, .val (.int i)] [(.int (255 : Int32)), (.int (f1 (i).toNatClampNeg)), (.long hh)]))
    refine Gd.st (fun _ k => XS.iand X0.here hx rfl (hb hby d3_21) rfl k) ?_
    show Gd p.tables e below _ (T0.setTop (mkF m 22 #[.val (.ref a1), .val (.int p2), .val (.int p3), .val (.long hh), .second, .val (.int i)] [(.int ((f1 (i).toNatClampNeg) &&& (255 : Int32))), (.long hh)]))
    refine Gd.st (fun _ k => XS.i2l X0.here hx rfl (hb hby d3_22) rfl k) ?_
    show Gd p.tables e below _ (T0.setTop (mkF m 23 #[.val (.ref a1), .val (.int p2), .val (.int p3), .val (.long hh), .second, .val (.int i)] [(.long (((f1 (i).toNatClampNeg) &&& (255 : Int32)).toInt64)), (.long hh)]))
    refine Gd.st (fun _ k => XS.lxor X0.here hx rfl (hb hby d3_23) rfl k) ?_
    show Gd p.tables e below _ (T0.setTop (mkF m 24 #[.val (.ref a1), .val (.int p2), .val (.int p3), .val (.long hh), .second, .val (.int i)] [(.long (hh ^^^ (((f1 (i).toNatClampNeg) &&& (255 : Int32)).toInt64)))]))
    refine Gd.st (fun _ k => X0.ldc2Long hx hown (mvT hZ (hw _ (List.mem_of_getElem? (i := 13) rfl))) (g := (mkF m 24 #[.val (.ref a1), .val (.int p2), .val (.int p3), .val (.long hh), .second, .val (.int i)] [(.long (hh ^^^ (((f1 (i).toNatClampNeg) &&& (255 : Int32)).toInt64)))])) rfl (hb hby d3_24) _ k) ?_
    show Gd p.tables e below _ (T0.setTop (mkF m 27 #[.val (.ref a1), .val (.int p2), .val (.int p3), .val (.long hh), .second, .val (.int i)] [(.long (1099511628211 : Int64)), (.long (hh ^^^ (((f1 (i).toNatClampNeg) &&& (255 : Int32)).toInt64)))]))
    refine Gd.st (fun _ k => XS.lmul X0.here hx rfl (hb hby d3_27) rfl k) ?_
    show Gd p.tables e below _ (T0.setTop (mkF m 28 #[.val (.ref a1), .val (.int p2), .val (.int p3), .val (.long hh), .second, .val (.int i)] [(.long (own_stp hh (f1 i.toNatClampNeg)))]))
    refine Gd.st (fun _ k => XS.lstoreN X0.here hx rfl (hb hby d3_28) rfl (l' := #[.val (.ref a1), .val (.int p2), .val (.int p3), .val (.long (own_stp hh (f1 i.toNatClampNeg))), .second, .val (.int i)]) rfl k) ?_
    show Gd p.tables e below _ (T0.setTop (mkF m 29 #[.val (.ref a1), .val (.int p2), .val (.int p3), .val (.long (own_stp hh (f1 i.toNatClampNeg))), .second, .val (.int i)] []))
    refine Gd.st (fun _ k => XS.iinc X0.here hx rfl (hb hby d3_29) rfl (l' := #[.val (.ref a1), .val (.int p2), .val (.int p3), .val (.long (own_stp hh (f1 i.toNatClampNeg))), .second, .val (.int (i + (1 : Int32)))]) rfl k) ?_
    show Gd p.tables e below _ (T0.setTop (mkF m 32 #[.val (.ref a1), .val (.int p2), .val (.int p3), .val (.long (own_stp hh (f1 i.toNatClampNeg))), .second, .val (.int (i + (1 : Int32)))] []))
    refine Gd.st (fun _ k => XS.goto X0.here hx rfl (pc0 := 32) (pc' := 7) rfl (hb hby d3_32) (by decide) (by decide) k) ?_
    show Gd p.tables e below _ (T0.setTop (mkF m 7 #[.val (.ref a1), .val (.int p2), .val (.int p3), .val (.long (own_stp hh (f1 i.toNatClampNeg))), .second, .val (.int (i + (1 : Int32)))] []))
    refine ih _ _ (by omega) (by omega) ?_
    rw [own_runs] at J
    rw [show (i + (1 : Int32)).toNatClampNeg = i.toNatClampNeg + 1 from by unfold Int32.toNatClampNeg; omega]
    exact J
theorem own_ofp (a b : Int32) (ha : 0 ≤ a.toInt ∧ a.toInt ≤ 3) (hb : 0 ≤ b.toInt ∧ b.toInt ≤ 4) : 0 ≤ a.toInt ∧ a.toInt + b.toNatClampNeg = (a + b).toInt ∧ (a + b).toInt ≤ 8 := by
  have := own_addr a b (by omega) hb
  unfold Int32.toNatClampNeg
  omega
theorem pn_ByteHash : plainName "com/example/kosha/kosha/ByteHash" = true := by first | (simp [plainName, overriddenIn]; done) | decide +kernel
theorem ef_3 (m : MethodId) (x0 : Addr) (x1 : Int32) (x2 : Int32) : entryFrame m #[(.ref x0), (.int x1), (.int x2)] 6 = mkF m 0 #[.val (.ref x0), .val (.int x1), .val (.int x2), .unset, .unset, .unset] [] := by first | (simp [entryFrame, mkF, argsToLocals, Value.category]; done) | rfl
def Q3 (Z : State) (a1 : Addr) (p2 : Int32) (p3 : Int32) (k1 : ClassId) (f1 : Nat → Int32) (n1 : Nat) (h0 : Heap) (n0 : Nat) (v : Option Value) (h : Heap) (L : List Loc) : Prop := v = some (.long (own_of f1 p2 n1)) ∧ Fr n0 L ∧ h = h0
set_option maxRecDepth 65536 in
set_option maxHeartbeats 40000000 in
theorem rm3 (l : Launch) (Z : State) (a0 : Array Value) (hw : ∀ d ∈ tables_1, d.before a0 Z = true) (ws : List Jvm.Cond) (a1 : Addr) (p2 : Int32) (p3 : Int32) (k1 : ClassId) (f1 : Nat → Int32) (n1 : Nat) (h0 : Heap) (n0 : Nat) (Z0 : n0 ≤ h0.size) (V0 : Arv Z h0 a1 k1 .byte (8 : Int32) (own_vs f1) (.int (0 : Int32))) (hbd : 0 ≤ p2.toInt ∧ p2.toInt + n1 = p3.toInt ∧ p3.toInt ≤ 8) :
    MetFree l (⟨"com/example/kosha/kosha/ByteHash", "of", "([BII)J"⟩ : MethodName) (head1 (Jvm.Cond.code (⟨"com/example/kosha/kosha/ByteHash", "of", "([BII)J"⟩ : MethodName) prog_16_method_2_code 6 (some .long) :: ws) ({ frames := 0, cells := 0, slots := 0, locals := 0 } : Room)) (fun a U => a = #[(.ref a1), (.int p2), (.int p3)] ∧ Z.Warmed39 U.vm ∧ U.heap = h0) (fun _ _ _ _ _ => True) (fun _ U o U' => ∃ v L, o = .returned v ∧ Q3 Z a1 p2 p3 k1 f1 n1 h0 n0 v U'.heap L ∧ FrameEnd U o U' L ({ frames := 0, cells := 0, slots := 0, locals := 0 } : Room).cells ({ frames := 0, cells := 0, slots := 0, locals := 0 } : Room).slots) := by
  refine MetFree.of_bodySF (plainFor_of_name pn_ByteHash) hisR ?_
  intro p e s m args below meth c s₁ Bd hml0 hP hK
  obtain ⟨rfl, hZ, hh⟩ := hP
  have hx := Bd.exec
  have hby := Bd.bytes
  have hml : c.maxLocals = 6 := hml0
  have hown : s.vm.findClass "com/example/kosha/kosha/ByteHash" = some m.cls := findClass_of_methodNamed Bd.named
  have hnm := (name_of_methodNamed Bd.named Bd.method).1
  have X0 : Stand p l e ({ frames := 0, cells := 0, slots := 0, locals := 0 } : Room) s m #[(.ref a1), (.int p2), (.int p3)] below meth c s₁ [] 0 0 := Stand.of_body Bd
  have e0 : s₁.heap = h0 := by rw [← hh, Bd.state]; rfl
  have N0 := Fr.nil n0
  refine Gd.out (Gd.st (fun t k => castTop (ef_3 m a1 p2 p3) k) ?_)
  show Gd p.tables e below _ (s₁.setTop (mkF m 0 #[.val (.ref a1), .val (.int p2), .val (.int p3), .unset, .unset, .unset] []))
  refine Gd.st (fun _ k => X0.ldc2Long hx hown (mvT hZ (hw _ (List.mem_of_getElem? (i := 12) rfl))) (g := (mkF m 0 #[.val (.ref a1), .val (.int p2), .val (.int p3), .unset, .unset, .unset] [])) rfl (hb hby d3_0) _ k) ?_
  show Gd p.tables e below _ (s₁.setTop (mkF m 3 #[.val (.ref a1), .val (.int p2), .val (.int p3), .unset, .unset, .unset] [(.long (-3750763034362895579 : Int64))]))
  refine Gd.st (fun _ k => XS.lstoreN X0.here hx rfl (hb hby d3_3) rfl (l' := #[.val (.ref a1), .val (.int p2), .val (.int p3), .val (.long (-3750763034362895579 : Int64)), .second, .unset]) rfl k) ?_
  show Gd p.tables e below _ (s₁.setTop (mkF m 4 #[.val (.ref a1), .val (.int p2), .val (.int p3), .val (.long (-3750763034362895579 : Int64)), .second, .unset] []))
  refine Gd.st (fun _ k => XS.iloadN X0.here hx rfl (hb hby d3_4) rfl k) ?_
  show Gd p.tables e below _ (s₁.setTop (mkF m 5 #[.val (.ref a1), .val (.int p2), .val (.int p3), .val (.long (-3750763034362895579 : Int64)), .second, .unset] [(.int p2)]))
  refine Gd.st (fun _ k => XS.istore X0.here hx rfl (hb hby d3_5) rfl (l' := #[.val (.ref a1), .val (.int p2), .val (.int p3), .val (.long (-3750763034362895579 : Int64)), .second, .val (.int p2)]) rfl k) ?_
  show Gd p.tables e below _ (s₁.setTop (mkF m 7 #[.val (.ref a1), .val (.int p2), .val (.int p3), .val (.long (-3750763034362895579 : Int64)), .second, .val (.int p2)] []))
  refine lp3 a1 p2 p3 k1 f1 X0 hx hZ hw hby hml hown e0 V0 hbd.2.2 n1 p2 _ hbd.1 hbd.2.1 ?_
  show Gd p.tables e below _ (s₁.setTop (mkF m 35 #[.val (.ref a1), .val (.int p2), .val (.int p3), .val (.long (own_run f1 p2.toNatClampNeg n1 (-3750763034362895579 : Int64))), .second, .val (.int p3)] []))
  refine Gd.st (fun _ k => XS.lloadN X0.here hx rfl (hb hby d3_35) rfl k) ?_
  show Gd p.tables e below _ (s₁.setTop (mkF m 36 #[.val (.ref a1), .val (.int p2), .val (.int p3), .val (.long (own_run f1 p2.toNatClampNeg n1 (-3750763034362895579 : Int64))), .second, .val (.int p3)] [(.long (own_run f1 p2.toNatClampNeg n1 (-3750763034362895579 : Int64)))]))
  refine Gd.st (fun _ k => XS.lloadN X0.here hx rfl (hb hby d3_36) rfl k) ?_
  show Gd p.tables e below _ (s₁.setTop (mkF m 37 #[.val (.ref a1), .val (.int p2), .val (.int p3), .val (.long (own_run f1 p2.toNatClampNeg n1 (-3750763034362895579 : Int64))), .second, .val (.int p3)] [(.long (own_run f1 p2.toNatClampNeg n1 (-3750763034362895579 : Int64))), (.long (own_run f1 p2.toNatClampNeg n1 (-3750763034362895579 : Int64)))]))
  refine Gd.st (fun _ k => XS.bipush X0.here hx rfl (hb hby d3_37) k) ?_
  show Gd p.tables e below _ (s₁.setTop (mkF m 39 #[.val (.ref a1), .val (.int p2), .val (.int p3), .val (.long (own_run f1 p2.toNatClampNeg n1 (-3750763034362895579 : Int64))), .second, .val (.int p3)] [(.int (33 : Int32)), (.long (own_run f1 p2.toNatClampNeg n1 (-3750763034362895579 : Int64))), (.long (own_run f1 p2.toNatClampNeg n1 (-3750763034362895579 : Int64)))]))
  refine Gd.st (fun _ k => XS.lushr X0.here hx rfl (hb hby d3_39) rfl k) ?_
  show Gd p.tables e below _ (s₁.setTop (mkF m 40 #[.val (.ref a1), .val (.int p2), .val (.int p3), .val (.long (own_run f1 p2.toNatClampNeg n1 (-3750763034362895579 : Int64))), .second, .val (.int p3)] [(.long (((own_run f1 p2.toNatClampNeg n1 (-3750763034362895579 : Int64)).toUInt64 >>> ((33 : Int32) &&& 0x3f).toInt64.toUInt64).toInt64)), (.long (own_run f1 p2.toNatClampNeg n1 (-3750763034362895579 : Int64)))]))
  refine Gd.st (fun _ k => XS.lxor X0.here hx rfl (hb hby d3_40) rfl k) ?_
  show Gd p.tables e below _ (s₁.setTop (mkF m 41 #[.val (.ref a1), .val (.int p2), .val (.int p3), .val (.long (own_run f1 p2.toNatClampNeg n1 (-3750763034362895579 : Int64))), .second, .val (.int p3)] [(.long (own_xs (own_run f1 p2.toNatClampNeg n1 (-3750763034362895579 : Int64))))]))
  refine Gd.st (fun _ k => XS.lstoreN X0.here hx rfl (hb hby d3_41) rfl (l' := #[.val (.ref a1), .val (.int p2), .val (.int p3), .val (.long (own_xs (own_run f1 p2.toNatClampNeg n1 (-3750763034362895579 : Int64)))), .second, .val (.int p3)]) rfl k) ?_
  show Gd p.tables e below _ (s₁.setTop (mkF m 42 #[.val (.ref a1), .val (.int p2), .val (.int p3), .val (.long (own_xs (own_run f1 p2.toNatClampNeg n1 (-3750763034362895579 : Int64)))), .second, .val (.int p3)] []))
  refine Gd.st (fun _ k => XS.lloadN X0.here hx rfl (hb hby d3_42) rfl k) ?_
  show Gd p.tables e below _ (s₁.setTop (mkF m 43 #[.val (.ref a1), .val (.int p2), .val (.int p3), .val (.long (own_xs (own_run f1 p2.toNatClampNeg n1 (-3750763034362895579 : Int64)))), .second, .val (.int p3)] [(.long (own_xs (own_run f1 p2.toNatClampNeg n1 (-3750763034362895579 : Int64))))]))
  refine Gd.st (fun _ k => X0.ldc2Long hx hown (mvT hZ (hw _ (List.mem_of_getElem? (i := 14) rfl))) (g := (mkF m 43 #[.val (.ref a1), .val (.int p2), .val (.int p3), .val (.long (own_xs (own_run f1 p2.toNatClampNeg n1 (-3750763034362895579 : Int64)))), .second, .val (.int p3)] [(.long (own_xs (own_run f1 p2.toNatClampNeg n1 (-3750763034362895579 : Int64))))])) rfl (hb hby d3_43) _ k) ?_
  show Gd p.tables e below _ (s₁.setTop (mkF m 46 #[.val (.ref a1), .val (.int p2), .val (.int p3), .val (.long (own_xs (own_run f1 p2.toNatClampNeg n1 (-3750763034362895579 : Int64)))), .second, .val (.int p3)] [(.long (-49064778989728563 : Int64)), (.long (own_xs (own_run f1 p2.toNatClampNeg n1 (-3750763034362895579 : Int64))))]))
  refine Gd.st (fun _ k => XS.lmul X0.here hx rfl (hb hby d3_46) rfl k) ?_
  show Gd p.tables e below _ (s₁.setTop (mkF m 47 #[.val (.ref a1), .val (.int p2), .val (.int p3), .val (.long (own_xs (own_run f1 p2.toNatClampNeg n1 (-3750763034362895579 : Int64)))), .second, .val (.int p3)] [(.long ((own_xs (own_run f1 p2.toNatClampNeg n1 (-3750763034362895579 : Int64))) * (-49064778989728563 : Int64)))]))
  refine Gd.st (fun _ k => XS.lstoreN X0.here hx rfl (hb hby d3_47) rfl (l' := #[.val (.ref a1), .val (.int p2), .val (.int p3), .val (.long ((own_xs (own_run f1 p2.toNatClampNeg n1 (-3750763034362895579 : Int64))) * (-49064778989728563 : Int64))), .second, .val (.int p3)]) rfl k) ?_
  show Gd p.tables e below _ (s₁.setTop (mkF m 48 #[.val (.ref a1), .val (.int p2), .val (.int p3), .val (.long ((own_xs (own_run f1 p2.toNatClampNeg n1 (-3750763034362895579 : Int64))) * (-49064778989728563 : Int64))), .second, .val (.int p3)] []))
  refine Gd.st (fun _ k => XS.lloadN X0.here hx rfl (hb hby d3_48) rfl k) ?_
  show Gd p.tables e below _ (s₁.setTop (mkF m 49 #[.val (.ref a1), .val (.int p2), .val (.int p3), .val (.long ((own_xs (own_run f1 p2.toNatClampNeg n1 (-3750763034362895579 : Int64))) * (-49064778989728563 : Int64))), .second, .val (.int p3)] [(.long ((own_xs (own_run f1 p2.toNatClampNeg n1 (-3750763034362895579 : Int64))) * (-49064778989728563 : Int64)))]))
  refine Gd.st (fun _ k => XS.lloadN X0.here hx rfl (hb hby d3_49) rfl k) ?_
  show Gd p.tables e below _ (s₁.setTop (mkF m 50 #[.val (.ref a1), .val (.int p2), .val (.int p3), .val (.long ((own_xs (own_run f1 p2.toNatClampNeg n1 (-3750763034362895579 : Int64))) * (-49064778989728563 : Int64))), .second, .val (.int p3)] [(.long ((own_xs (own_run f1 p2.toNatClampNeg n1 (-3750763034362895579 : Int64))) * (-49064778989728563 : Int64))), (.long ((own_xs (own_run f1 p2.toNatClampNeg n1 (-3750763034362895579 : Int64))) * (-49064778989728563 : Int64)))]))
  refine Gd.st (fun _ k => XS.bipush X0.here hx rfl (hb hby d3_50) k) ?_
  show Gd p.tables e below _ (s₁.setTop (mkF m 52 #[.val (.ref a1), .val (.int p2), .val (.int p3), .val (.long ((own_xs (own_run f1 p2.toNatClampNeg n1 (-3750763034362895579 : Int64))) * (-49064778989728563 : Int64))), .second, .val (.int p3)] [(.int (33 : Int32)), (.long ((own_xs (own_run f1 p2.toNatClampNeg n1 (-3750763034362895579 : Int64))) * (-49064778989728563 : Int64))), (.long ((own_xs (own_run f1 p2.toNatClampNeg n1 (-3750763034362895579 : Int64))) * (-49064778989728563 : Int64)))]))
  refine Gd.st (fun _ k => XS.lushr X0.here hx rfl (hb hby d3_52) rfl k) ?_
  show Gd p.tables e below _ (s₁.setTop (mkF m 53 #[.val (.ref a1), .val (.int p2), .val (.int p3), .val (.long ((own_xs (own_run f1 p2.toNatClampNeg n1 (-3750763034362895579 : Int64))) * (-49064778989728563 : Int64))), .second, .val (.int p3)] [(.long ((((own_xs (own_run f1 p2.toNatClampNeg n1 (-3750763034362895579 : Int64))) * (-49064778989728563 : Int64)).toUInt64 >>> ((33 : Int32) &&& 0x3f).toInt64.toUInt64).toInt64)), (.long ((own_xs (own_run f1 p2.toNatClampNeg n1 (-3750763034362895579 : Int64))) * (-49064778989728563 : Int64)))]))
  refine Gd.st (fun _ k => XS.lxor X0.here hx rfl (hb hby d3_53) rfl k) ?_
  show Gd p.tables e below _ (s₁.setTop (mkF m 54 #[.val (.ref a1), .val (.int p2), .val (.int p3), .val (.long ((own_xs (own_run f1 p2.toNatClampNeg n1 (-3750763034362895579 : Int64))) * (-49064778989728563 : Int64))), .second, .val (.int p3)] [(.long (own_xs ((own_xs (own_run f1 p2.toNatClampNeg n1 (-3750763034362895579 : Int64))) * (-49064778989728563 : Int64))))]))
  refine Gd.st (fun _ k => XS.lstoreN X0.here hx rfl (hb hby d3_54) rfl (l' := #[.val (.ref a1), .val (.int p2), .val (.int p3), .val (.long (own_xs ((own_xs (own_run f1 p2.toNatClampNeg n1 (-3750763034362895579 : Int64))) * (-49064778989728563 : Int64)))), .second, .val (.int p3)]) rfl k) ?_
  show Gd p.tables e below _ (s₁.setTop (mkF m 55 #[.val (.ref a1), .val (.int p2), .val (.int p3), .val (.long (own_xs ((own_xs (own_run f1 p2.toNatClampNeg n1 (-3750763034362895579 : Int64))) * (-49064778989728563 : Int64)))), .second, .val (.int p3)] []))
  refine Gd.st (fun _ k => XS.lloadN X0.here hx rfl (hb hby d3_55) rfl k) ?_
  show Gd p.tables e below _ (s₁.setTop (mkF m 56 #[.val (.ref a1), .val (.int p2), .val (.int p3), .val (.long (own_xs ((own_xs (own_run f1 p2.toNatClampNeg n1 (-3750763034362895579 : Int64))) * (-49064778989728563 : Int64)))), .second, .val (.int p3)] [(.long (own_xs ((own_xs (own_run f1 p2.toNatClampNeg n1 (-3750763034362895579 : Int64))) * (-49064778989728563 : Int64))))]))
  refine Gd.st (fun _ k => X0.ldc2Long hx hown (mvT hZ (hw _ (List.mem_of_getElem? (i := 15) rfl))) (g := (mkF m 56 #[.val (.ref a1), .val (.int p2), .val (.int p3), .val (.long (own_xs ((own_xs (own_run f1 p2.toNatClampNeg n1 (-3750763034362895579 : Int64))) * (-49064778989728563 : Int64)))), .second, .val (.int p3)] [(.long (own_xs ((own_xs (own_run f1 p2.toNatClampNeg n1 (-3750763034362895579 : Int64))) * (-49064778989728563 : Int64))))])) rfl (hb hby d3_56) _ k) ?_
  show Gd p.tables e below _ (s₁.setTop (mkF m 59 #[.val (.ref a1), .val (.int p2), .val (.int p3), .val (.long (own_xs ((own_xs (own_run f1 p2.toNatClampNeg n1 (-3750763034362895579 : Int64))) * (-49064778989728563 : Int64)))), .second, .val (.int p3)] [(.long (-4265267296055464877 : Int64)), (.long (own_xs ((own_xs (own_run f1 p2.toNatClampNeg n1 (-3750763034362895579 : Int64))) * (-49064778989728563 : Int64))))]))
  refine Gd.st (fun _ k => XS.lmul X0.here hx rfl (hb hby d3_59) rfl k) ?_
  show Gd p.tables e below _ (s₁.setTop (mkF m 60 #[.val (.ref a1), .val (.int p2), .val (.int p3), .val (.long (own_xs ((own_xs (own_run f1 p2.toNatClampNeg n1 (-3750763034362895579 : Int64))) * (-49064778989728563 : Int64)))), .second, .val (.int p3)] [(.long ((own_xs ((own_xs (own_run f1 p2.toNatClampNeg n1 (-3750763034362895579 : Int64))) * (-49064778989728563 : Int64))) * (-4265267296055464877 : Int64)))]))
  refine Gd.st (fun _ k => XS.lstoreN X0.here hx rfl (hb hby d3_60) rfl (l' := #[.val (.ref a1), .val (.int p2), .val (.int p3), .val (.long ((own_xs ((own_xs (own_run f1 p2.toNatClampNeg n1 (-3750763034362895579 : Int64))) * (-49064778989728563 : Int64))) * (-4265267296055464877 : Int64))), .second, .val (.int p3)]) rfl k) ?_
  show Gd p.tables e below _ (s₁.setTop (mkF m 61 #[.val (.ref a1), .val (.int p2), .val (.int p3), .val (.long ((own_xs ((own_xs (own_run f1 p2.toNatClampNeg n1 (-3750763034362895579 : Int64))) * (-49064778989728563 : Int64))) * (-4265267296055464877 : Int64))), .second, .val (.int p3)] []))
  refine Gd.st (fun _ k => XS.lloadN X0.here hx rfl (hb hby d3_61) rfl k) ?_
  show Gd p.tables e below _ (s₁.setTop (mkF m 62 #[.val (.ref a1), .val (.int p2), .val (.int p3), .val (.long ((own_xs ((own_xs (own_run f1 p2.toNatClampNeg n1 (-3750763034362895579 : Int64))) * (-49064778989728563 : Int64))) * (-4265267296055464877 : Int64))), .second, .val (.int p3)] [(.long ((own_xs ((own_xs (own_run f1 p2.toNatClampNeg n1 (-3750763034362895579 : Int64))) * (-49064778989728563 : Int64))) * (-4265267296055464877 : Int64)))]))
  refine Gd.st (fun _ k => XS.lloadN X0.here hx rfl (hb hby d3_62) rfl k) ?_
  show Gd p.tables e below _ (s₁.setTop (mkF m 63 #[.val (.ref a1), .val (.int p2), .val (.int p3), .val (.long ((own_xs ((own_xs (own_run f1 p2.toNatClampNeg n1 (-3750763034362895579 : Int64))) * (-49064778989728563 : Int64))) * (-4265267296055464877 : Int64))), .second, .val (.int p3)] [(.long ((own_xs ((own_xs (own_run f1 p2.toNatClampNeg n1 (-3750763034362895579 : Int64))) * (-49064778989728563 : Int64))) * (-4265267296055464877 : Int64))), (.long ((own_xs ((own_xs (own_run f1 p2.toNatClampNeg n1 (-3750763034362895579 : Int64))) * (-49064778989728563 : Int64))) * (-4265267296055464877 : Int64)))]))
  refine Gd.st (fun _ k => XS.bipush X0.here hx rfl (hb hby d3_63) k) ?_
  show Gd p.tables e below _ (s₁.setTop (mkF m 65 #[.val (.ref a1), .val (.int p2), .val (.int p3), .val (.long ((own_xs ((own_xs (own_run f1 p2.toNatClampNeg n1 (-3750763034362895579 : Int64))) * (-49064778989728563 : Int64))) * (-4265267296055464877 : Int64))), .second, .val (.int p3)] [(.int (33 : Int32)), (.long ((own_xs ((own_xs (own_run f1 p2.toNatClampNeg n1 (-3750763034362895579 : Int64))) * (-49064778989728563 : Int64))) * (-4265267296055464877 : Int64))), (.long ((own_xs ((own_xs (own_run f1 p2.toNatClampNeg n1 (-3750763034362895579 : Int64))) * (-49064778989728563 : Int64))) * (-4265267296055464877 : Int64)))]))
  refine Gd.st (fun _ k => XS.lushr X0.here hx rfl (hb hby d3_65) rfl k) ?_
  show Gd p.tables e below _ (s₁.setTop (mkF m 66 #[.val (.ref a1), .val (.int p2), .val (.int p3), .val (.long ((own_xs ((own_xs (own_run f1 p2.toNatClampNeg n1 (-3750763034362895579 : Int64))) * (-49064778989728563 : Int64))) * (-4265267296055464877 : Int64))), .second, .val (.int p3)] [(.long ((((own_xs ((own_xs (own_run f1 p2.toNatClampNeg n1 (-3750763034362895579 : Int64))) * (-49064778989728563 : Int64))) * (-4265267296055464877 : Int64)).toUInt64 >>> ((33 : Int32) &&& 0x3f).toInt64.toUInt64).toInt64)), (.long ((own_xs ((own_xs (own_run f1 p2.toNatClampNeg n1 (-3750763034362895579 : Int64))) * (-49064778989728563 : Int64))) * (-4265267296055464877 : Int64)))]))
  refine Gd.st (fun _ k => XS.lxor X0.here hx rfl (hb hby d3_66) rfl k) ?_
  show Gd p.tables e below _ (s₁.setTop (mkF m 67 #[.val (.ref a1), .val (.int p2), .val (.int p3), .val (.long ((own_xs ((own_xs (own_run f1 p2.toNatClampNeg n1 (-3750763034362895579 : Int64))) * (-49064778989728563 : Int64))) * (-4265267296055464877 : Int64))), .second, .val (.int p3)] [(.long (own_of f1 p2 n1))]))
  obtain ⟨fs, hr, hrun, hended, hW, hsame⟩ := X0.leave (v := some (.long (own_of f1 p2 n1))) (fun h => by rw [Bd.returns] at h; cases h) Bd.notSynchronized
  refine Gd.mk (o := .returned (some (.long (own_of f1 p2 n1)))) (X0.lreturnOut hx Bd.returns (hb hby d3_67) hr) ⟨hrun, hended, _, _, rfl, ?_, ⟨_, rfl⟩, hW, hsame.mono (by decide) (by decide)⟩
  show Q3 Z a1 p2 p3 k1 f1 n1 h0 n0 _ s₁.heap _
  rw [e0]
  exact ⟨rfl, N0, rfl⟩
theorem ef_0 (m : MethodId) (x0 : Int64) (x1 : Int64) (x2 : Int32) (x3 : Int32) (x4 : Int32) : entryFrame m #[(.long x0), (.long x1), (.int x2), (.int x3), (.int x4)] maxLocals = mkF m 0 #[.val (.long x0), .second, .val (.long x1), .second, .val (.int x2), .val (.int x3), .val (.int x4), .unset, .unset, .unset, .unset, .unset, .unset, .unset, .unset, .unset, .unset, .unset, .unset, .unset, .unset] [] := by first | (simp [entryFrame, mkF, argsToLocals, Value.category, maxLocals]; done) | rfl
theorem pd__J_AB_5 : parseMethodDescriptor "(J)[B" = some ⟨[.long], some (.array .byte)⟩ := by decide +kernel
theorem pd__ABIII_V_8 : parseMethodDescriptor "([BIII)V" = some ⟨[(.array .byte), .int, .int, .int], none⟩ := by decide +kernel
theorem pd__ABII_J_7 : parseMethodDescriptor "([BII)J" = some ⟨[(.array .byte), .int, .int], some .long⟩ := by decide +kernel
def Q0 (Z : State) (q1 : Int64) (q2 : Int64) (p3 : Int32) (p4 : Int32) (p5 : Int32) (h0 : Heap) (n0 : Nat) (v : Option Value) (h : Heap) (L : List Loc) : Prop := v = some (.int (1 : Int32)) ∧ Fr n0 L
set_option maxRecDepth 65536 in
set_option maxHeartbeats 40000000 in
theorem rm0 (l : Launch) (Z : State) (a0 : Array Value) (hw : ∀ d ∈ tables_1, d.before a0 Z = true) (ws : List Jvm.Cond) (q1 : Int64) (q2 : Int64) (p3 : Int32) (p4 : Int32) (p5 : Int32) (h0 : Heap) (n0 : Nat) (Z0 : n0 ≤ h0.size) :
    MetFree l x (head1 (Jvm.Cond.code x code maxLocals ret :: ws) room_1) (fun a U => a = #[(.long q1), (.long q2), (.int p3), (.int p4), (.int p5)] ∧ Z.Warmed39 U.vm ∧ U.heap = h0) (fun _ _ _ _ _ => True) (fun _ U o U' => ∃ v L, o = .returned v ∧ Q0 Z q1 q2 p3 p4 p5 h0 n0 v U'.heap L ∧ FrameEnd U o U' L room_1.cells room_1.slots) := by
  refine MetFree.of_bodySF (plainFor_of_name pn_ByteHashOfPinLaw) hisR ?_
  intro p e s m args below meth c s₁ Bd hml0 hP hK
  obtain ⟨rfl, hZ, hh⟩ := hP
  have hx := Bd.exec
  have hby := Bd.bytes
  have hml : c.maxLocals = 21 := hml0
  have hown : s.vm.findClass "com/example/kosha/kosha/ByteHashOfPinLaw" = some m.cls := findClass_of_methodNamed Bd.named
  have hnm := (name_of_methodNamed Bd.named Bd.method).1
  have X0 : Stand p l e room_1 s m #[(.long q1), (.long q2), (.int p3), (.int p4), (.int p5)] below meth c s₁ [] 0 0 := Stand.of_body Bd
  have e0 : s₁.heap = h0 := by rw [← hh, Bd.state]; rfl
  have N0 := Fr.nil n0
  refine Gd.out (Gd.st (fun t k => castTop (ef_0 m q1 q2 p3 p4 p5) k) ?_)
  show Gd p.tables e below _ (s₁.setTop (mkF m 0 #[.val (.long q1), .second, .val (.long q2), .second, .val (.int p3), .val (.int p4), .val (.int p5), .unset, .unset, .unset, .unset, .unset, .unset, .unset, .unset, .unset, .unset, .unset, .unset, .unset, .unset] []))
  refine Gd.st (fun _ k => XS.iload X0.here hx rfl (hb hby at_0) rfl k) ?_
  show Gd p.tables e below _ (s₁.setTop (mkF m 2 #[.val (.long q1), .second, .val (.long q2), .second, .val (.int p3), .val (.int p4), .val (.int p5), .unset, .unset, .unset, .unset, .unset, .unset, .unset, .unset, .unset, .unset, .unset, .unset, .unset, .unset] [(.int p4)]))
  refine Gd.st (fun _ k => XS.bipush X0.here hx rfl (hb hby at_2) k) ?_
  show Gd p.tables e below _ (s₁.setTop (mkF m 4 #[.val (.long q1), .second, .val (.long q2), .second, .val (.int p3), .val (.int p4), .val (.int p5), .unset, .unset, .unset, .unset, .unset, .unset, .unset, .unset, .unset, .unset, .unset, .unset, .unset, .unset] [(.int (7 : Int32)), (.int p4)]))
  refine Gd.st (fun _ k => XS.iand X0.here hx rfl (hb hby at_4) rfl k) ?_
  show Gd p.tables e below _ (s₁.setTop (mkF m 5 #[.val (.long q1), .second, .val (.long q2), .second, .val (.int p3), .val (.int p4), .val (.int p5), .unset, .unset, .unset, .unset, .unset, .unset, .unset, .unset, .unset, .unset, .unset, .unset, .unset, .unset] [(.int (p4 &&& (7 : Int32)))]))
  refine Gd.st (fun _ k => XS.iconst X0.here hx rfl (hb hby at_5) k) ?_
  show Gd p.tables e below _ (s₁.setTop (mkF m 6 #[.val (.long q1), .second, .val (.long q2), .second, .val (.int p3), .val (.int p4), .val (.int p5), .unset, .unset, .unset, .unset, .unset, .unset, .unset, .unset, .unset, .unset, .unset, .unset, .unset, .unset] [(.int (5 : Int32)), (.int (p4 &&& (7 : Int32)))]))
  refine Gd.st (fun _ k => XS.irem X0.here hx rfl (hb hby at_6) rfl (by decide) k) ?_
  show Gd p.tables e below _ (s₁.setTop (mkF m 7 #[.val (.long q1), .second, .val (.long q2), .second, .val (.int p3), .val (.int p4), .val (.int p5), .unset, .unset, .unset, .unset, .unset, .unset, .unset, .unset, .unset, .unset, .unset, .unset, .unset, .unset] [(.int (own_n p4))]))
  refine Gd.st (fun _ k => XS.istore X0.here hx rfl (hb hby at_7) rfl (l' := #[.val (.long q1), .second, .val (.long q2), .second, .val (.int p3), .val (.int p4), .val (.int p5), .val (.int (own_n p4)), .unset, .unset, .unset, .unset, .unset, .unset, .unset, .unset, .unset, .unset, .unset, .unset, .unset]) rfl k) ?_
  show Gd p.tables e below _ (s₁.setTop (mkF m 9 #[.val (.long q1), .second, .val (.long q2), .second, .val (.int p3), .val (.int p4), .val (.int p5), .val (.int (own_n p4)), .unset, .unset, .unset, .unset, .unset, .unset, .unset, .unset, .unset, .unset, .unset, .unset, .unset] []))
  refine Gd.st (fun _ k => XS.iload X0.here hx rfl (hb hby at_9) rfl k) ?_
  show Gd p.tables e below _ (s₁.setTop (mkF m 11 #[.val (.long q1), .second, .val (.long q2), .second, .val (.int p3), .val (.int p4), .val (.int p5), .val (.int (own_n p4)), .unset, .unset, .unset, .unset, .unset, .unset, .unset, .unset, .unset, .unset, .unset, .unset, .unset] [(.int p4)]))
  refine Gd.st (fun _ k => XS.iconst X0.here hx rfl (hb hby at_11) k) ?_
  show Gd p.tables e below _ (s₁.setTop (mkF m 12 #[.val (.long q1), .second, .val (.long q2), .second, .val (.int p3), .val (.int p4), .val (.int p5), .val (.int (own_n p4)), .unset, .unset, .unset, .unset, .unset, .unset, .unset, .unset, .unset, .unset, .unset, .unset, .unset] [(.int (3 : Int32)), (.int p4)]))
  refine Gd.st (fun _ k => XS.iushr X0.here hx rfl (hb hby at_12) rfl k) ?_
  show Gd p.tables e below _ (s₁.setTop (mkF m 13 #[.val (.long q1), .second, .val (.long q2), .second, .val (.int p3), .val (.int p4), .val (.int p5), .val (.int (own_n p4)), .unset, .unset, .unset, .unset, .unset, .unset, .unset, .unset, .unset, .unset, .unset, .unset, .unset] [(.int (own_sh p4 (3 : Int32)))]))
  refine Gd.st (fun _ k => XS.iconst X0.here hx rfl (hb hby at_13) k) ?_
  show Gd p.tables e below _ (s₁.setTop (mkF m 14 #[.val (.long q1), .second, .val (.long q2), .second, .val (.int p3), .val (.int p4), .val (.int p5), .val (.int (own_n p4)), .unset, .unset, .unset, .unset, .unset, .unset, .unset, .unset, .unset, .unset, .unset, .unset, .unset] [(.int (3 : Int32)), (.int (own_sh p4 (3 : Int32)))]))
  refine Gd.st (fun _ k => XS.iand X0.here hx rfl (hb hby at_14) rfl k) ?_
  show Gd p.tables e below _ (s₁.setTop (mkF m 15 #[.val (.long q1), .second, .val (.long q2), .second, .val (.int p3), .val (.int p4), .val (.int p5), .val (.int (own_n p4)), .unset, .unset, .unset, .unset, .unset, .unset, .unset, .unset, .unset, .unset, .unset, .unset, .unset] [(.int (own_fa p4))]))
  refine Gd.st (fun _ k => XS.istore X0.here hx rfl (hb hby at_15) rfl (l' := #[.val (.long q1), .second, .val (.long q2), .second, .val (.int p3), .val (.int p4), .val (.int p5), .val (.int (own_n p4)), .val (.int (own_fa p4)), .unset, .unset, .unset, .unset, .unset, .unset, .unset, .unset, .unset, .unset, .unset, .unset]) rfl k) ?_
  show Gd p.tables e below _ (s₁.setTop (mkF m 17 #[.val (.long q1), .second, .val (.long q2), .second, .val (.int p3), .val (.int p4), .val (.int p5), .val (.int (own_n p4)), .val (.int (own_fa p4)), .unset, .unset, .unset, .unset, .unset, .unset, .unset, .unset, .unset, .unset, .unset, .unset] []))
  refine Gd.st (fun _ k => XS.iload X0.here hx rfl (hb hby at_17) rfl k) ?_
  show Gd p.tables e below _ (s₁.setTop (mkF m 19 #[.val (.long q1), .second, .val (.long q2), .second, .val (.int p3), .val (.int p4), .val (.int p5), .val (.int (own_n p4)), .val (.int (own_fa p4)), .unset, .unset, .unset, .unset, .unset, .unset, .unset, .unset, .unset, .unset, .unset, .unset] [(.int p4)]))
  refine Gd.st (fun _ k => XS.iconst X0.here hx rfl (hb hby at_19) k) ?_
  show Gd p.tables e below _ (s₁.setTop (mkF m 20 #[.val (.long q1), .second, .val (.long q2), .second, .val (.int p3), .val (.int p4), .val (.int p5), .val (.int (own_n p4)), .val (.int (own_fa p4)), .unset, .unset, .unset, .unset, .unset, .unset, .unset, .unset, .unset, .unset, .unset, .unset] [(.int (5 : Int32)), (.int p4)]))
  refine Gd.st (fun _ k => XS.iushr X0.here hx rfl (hb hby at_20) rfl k) ?_
  show Gd p.tables e below _ (s₁.setTop (mkF m 21 #[.val (.long q1), .second, .val (.long q2), .second, .val (.int p3), .val (.int p4), .val (.int p5), .val (.int (own_n p4)), .val (.int (own_fa p4)), .unset, .unset, .unset, .unset, .unset, .unset, .unset, .unset, .unset, .unset, .unset, .unset] [(.int (own_sh p4 (5 : Int32)))]))
  refine Gd.st (fun _ k => XS.iconst X0.here hx rfl (hb hby at_21) k) ?_
  show Gd p.tables e below _ (s₁.setTop (mkF m 22 #[.val (.long q1), .second, .val (.long q2), .second, .val (.int p3), .val (.int p4), .val (.int p5), .val (.int (own_n p4)), .val (.int (own_fa p4)), .unset, .unset, .unset, .unset, .unset, .unset, .unset, .unset, .unset, .unset, .unset, .unset] [(.int (3 : Int32)), (.int (own_sh p4 (5 : Int32)))]))
  refine Gd.st (fun _ k => XS.iand X0.here hx rfl (hb hby at_22) rfl k) ?_
  show Gd p.tables e below _ (s₁.setTop (mkF m 23 #[.val (.long q1), .second, .val (.long q2), .second, .val (.int p3), .val (.int p4), .val (.int p5), .val (.int (own_n p4)), .val (.int (own_fa p4)), .unset, .unset, .unset, .unset, .unset, .unset, .unset, .unset, .unset, .unset, .unset, .unset] [(.int (own_fb p4))]))
  refine Gd.st (fun _ k => XS.istore X0.here hx rfl (hb hby at_23) rfl (l' := #[.val (.long q1), .second, .val (.long q2), .second, .val (.int p3), .val (.int p4), .val (.int p5), .val (.int (own_n p4)), .val (.int (own_fa p4)), .val (.int (own_fb p4)), .unset, .unset, .unset, .unset, .unset, .unset, .unset, .unset, .unset, .unset, .unset]) rfl k) ?_
  show Gd p.tables e below _ (s₁.setTop (mkF m 25 #[.val (.long q1), .second, .val (.long q2), .second, .val (.int p3), .val (.int p4), .val (.int p5), .val (.int (own_n p4)), .val (.int (own_fa p4)), .val (.int (own_fb p4)), .unset, .unset, .unset, .unset, .unset, .unset, .unset, .unset, .unset, .unset, .unset] []))
  refine Gd.st (fun _ k => XS.lloadN X0.here hx rfl (hb hby at_25) rfl k) ?_
  show Gd p.tables e below _ (s₁.setTop (mkF m 26 #[.val (.long q1), .second, .val (.long q2), .second, .val (.int p3), .val (.int p4), .val (.int p5), .val (.int (own_n p4)), .val (.int (own_fa p4)), .val (.int (own_fb p4)), .unset, .unset, .unset, .unset, .unset, .unset, .unset, .unset, .unset, .unset, .unset] [(.long q1)]))
  obtain ⟨_, _, ⟨T1, L1, k1, n1⟩, -, X1, ⟨Lc1, hQ1, l1, y1, z1⟩, st1⟩ := Jvm.LawKit.callS X0 hx (y := (⟨"com/example/kosha/kosha/ByteHashOfPinLaw", "fill", "(J)[B"⟩ : MethodName)) hown (mvT hZ (hw _ (List.mem_of_getElem? (i := 0) rfl))) (mvT hZ (hw _ (List.mem_of_getElem? (i := 1) rfl))) (mvT hZ (hw _ (List.mem_of_getElem? (i := 2) rfl))) (mvT hZ (hw _ (List.mem_of_getElem? (i := 3) rfl))) (by decide) (backOf (W := 0) (rm1 l Z a0 hw [] q1 h0 n0 Z0 ) hZ (hw _ (List.mem_of_getElem? (i := 3) rfl)) (hw _ (List.mem_of_getElem? (i := 2) rfl)) (by decide) (by decide)) (g := (mkF m 26 #[.val (.long q1), .second, .val (.long q2), .second, .val (.int p3), .val (.int p4), .val (.int p5), .val (.int (own_n p4)), .val (.int (own_fa p4)), .val (.int (own_fb p4)), .unset, .unset, .unset, .unset, .unset, .unset, .unset, .unset, .unset, .unset, .unset] [(.long q1)])) rfl (by rw [hml]; rfl) (argsL := [(.long q1)]) (rest := []) (lenOf pd__J_AB_5 rfl) rfl (by show 2 * 0 + _ ≤ _; exact Nat.le_of_eq rfl) (hb hby at_26) (fun _ _ => ⟨rfl, e0, (by decide : 0 + 1 ≤ _), (by decide : 0 + 8 ≤ _)⟩)
  dsimp only [Pt.U, Pt.locs, Pt.cells, Pt.slots] at X1 l1 y1 z1 st1 hQ1
  simp only [Nat.add_zero, Nat.zero_add, Nat.reduceAdd] at y1 z1
  subst y1 z1
  obtain ⟨rfl, N1q, K1, kk1, ff1, V1⟩ := hQ1
  have N1 : Fr n0 L1 := by rw [l1]; exact Fr.app N0 N1q
  clear l1
  obtain ⟨b1, gb1⟩ : ∃ z, z = h0.size := ⟨_, rfl⟩
  rw [← gb1] at st1 V1
  have g_b1 : n0 ≤ b1 := Nat.le_trans Z0 (Nat.le_of_eq gb1.symm)
  refine Gd.st st1 ?_
  have Z2 : n0 ≤ T1.heap.size := Nat.le_trans Z0 K1.1
  show Gd p.tables e below _ (T1.setTop (mkF m 29 #[.val (.long q1), .second, .val (.long q2), .second, .val (.int p3), .val (.int p4), .val (.int p5), .val (.int (own_n p4)), .val (.int (own_fa p4)), .val (.int (own_fb p4)), .unset, .unset, .unset, .unset, .unset, .unset, .unset, .unset, .unset, .unset, .unset] [(.ref b1)]))
  refine Gd.st (fun _ k => XS.astore X1.here hx rfl (hb hby at_29) rfl rfl (l' := #[.val (.long q1), .second, .val (.long q2), .second, .val (.int p3), .val (.int p4), .val (.int p5), .val (.int (own_n p4)), .val (.int (own_fa p4)), .val (.int (own_fb p4)), .val (.ref b1), .unset, .unset, .unset, .unset, .unset, .unset, .unset, .unset, .unset, .unset]) rfl k) ?_
  show Gd p.tables e below _ (T1.setTop (mkF m 31 #[.val (.long q1), .second, .val (.long q2), .second, .val (.int p3), .val (.int p4), .val (.int p5), .val (.int (own_n p4)), .val (.int (own_fa p4)), .val (.int (own_fb p4)), .val (.ref b1), .unset, .unset, .unset, .unset, .unset, .unset, .unset, .unset, .unset, .unset] []))
  refine Gd.st (fun _ k => XS.lloadN X1.here hx rfl (hb hby at_31) rfl k) ?_
  show Gd p.tables e below _ (T1.setTop (mkF m 32 #[.val (.long q1), .second, .val (.long q2), .second, .val (.int p3), .val (.int p4), .val (.int p5), .val (.int (own_n p4)), .val (.int (own_fa p4)), .val (.int (own_fb p4)), .val (.ref b1), .unset, .unset, .unset, .unset, .unset, .unset, .unset, .unset, .unset, .unset] [(.long q2)]))
  obtain ⟨_, _, ⟨T3, L3, k3, n3⟩, -, X3, ⟨Lc3, hQ3, l3, y3, z3⟩, st3⟩ := Jvm.LawKit.callS X1 hx (y := (⟨"com/example/kosha/kosha/ByteHashOfPinLaw", "fill", "(J)[B"⟩ : MethodName)) hown (mvT hZ (hw _ (List.mem_of_getElem? (i := 0) rfl))) (mvT hZ (hw _ (List.mem_of_getElem? (i := 1) rfl))) (mvT hZ (hw _ (List.mem_of_getElem? (i := 2) rfl))) (mvT hZ (hw _ (List.mem_of_getElem? (i := 3) rfl))) (by decide) (backOf (W := 0) (rm1 l Z a0 hw [] q2 T1.heap n0 Z2 ) hZ (hw _ (List.mem_of_getElem? (i := 3) rfl)) (hw _ (List.mem_of_getElem? (i := 2) rfl)) (by decide) (by decide)) (g := (mkF m 32 #[.val (.long q1), .second, .val (.long q2), .second, .val (.int p3), .val (.int p4), .val (.int p5), .val (.int (own_n p4)), .val (.int (own_fa p4)), .val (.int (own_fb p4)), .val (.ref b1), .unset, .unset, .unset, .unset, .unset, .unset, .unset, .unset, .unset, .unset] [(.long q2)])) rfl (by rw [hml]; rfl) (argsL := [(.long q2)]) (rest := []) (lenOf pd__J_AB_5 rfl) rfl (by show 2 * 0 + _ ≤ _; exact Nat.le_of_eq rfl) (hb hby at_32) (fun _ _ => ⟨rfl, rfl, (by decide : 1 + 1 ≤ _), (by decide : 8 + 8 ≤ _)⟩)
  dsimp only [Pt.U, Pt.locs, Pt.cells, Pt.slots] at X3 l3 y3 z3 st3 hQ3
  simp only [Nat.add_zero, Nat.zero_add, Nat.reduceAdd] at y3 z3
  subst y3 z3
  obtain ⟨rfl, N3q, K3, kk3, ff3, V3⟩ := hQ3
  have N3 : Fr n0 L3 := by rw [l3]; exact Fr.app N1 N3q
  clear l3
  obtain ⟨b3, gb3⟩ : ∃ z, z = T1.heap.size := ⟨_, rfl⟩
  rw [← gb3] at st3 V3
  have ne_b1_b3 : b1 ≠ b3 := Nat.ne_of_lt (Nat.lt_of_lt_of_le V1.lt (Nat.le_of_eq gb3.symm))
  have g_b3 : n0 ≤ b3 := Nat.le_trans Z2 (Nat.le_of_eq gb3.symm)
  refine Gd.st st3 ?_
  have Z4 : n0 ≤ T3.heap.size := Nat.le_trans Z2 K3.1
  show Gd p.tables e below _ (T3.setTop (mkF m 35 #[.val (.long q1), .second, .val (.long q2), .second, .val (.int p3), .val (.int p4), .val (.int p5), .val (.int (own_n p4)), .val (.int (own_fa p4)), .val (.int (own_fb p4)), .val (.ref b1), .unset, .unset, .unset, .unset, .unset, .unset, .unset, .unset, .unset, .unset] [(.ref b3)]))
  refine Gd.st (fun _ k => XS.astore X3.here hx rfl (hb hby at_35) rfl rfl (l' := #[.val (.long q1), .second, .val (.long q2), .second, .val (.int p3), .val (.int p4), .val (.int p5), .val (.int (own_n p4)), .val (.int (own_fa p4)), .val (.int (own_fb p4)), .val (.ref b1), .val (.ref b3), .unset, .unset, .unset, .unset, .unset, .unset, .unset, .unset, .unset]) rfl k) ?_
  show Gd p.tables e below _ (T3.setTop (mkF m 37 #[.val (.long q1), .second, .val (.long q2), .second, .val (.int p3), .val (.int p4), .val (.int p5), .val (.int (own_n p4)), .val (.int (own_fa p4)), .val (.int (own_fb p4)), .val (.ref b1), .val (.ref b3), .unset, .unset, .unset, .unset, .unset, .unset, .unset, .unset, .unset] []))
  refine Gd.st (fun _ k => XS.lloadN X3.here hx rfl (hb hby at_37) rfl k) ?_
  show Gd p.tables e below _ (T3.setTop (mkF m 38 #[.val (.long q1), .second, .val (.long q2), .second, .val (.int p3), .val (.int p4), .val (.int p5), .val (.int (own_n p4)), .val (.int (own_fa p4)), .val (.int (own_fb p4)), .val (.ref b1), .val (.ref b3), .unset, .unset, .unset, .unset, .unset, .unset, .unset, .unset, .unset] [(.long q2)]))
  obtain ⟨_, _, ⟨T5, L5, k5, n5⟩, -, X5, ⟨Lc5, hQ5, l5, y5, z5⟩, st5⟩ := Jvm.LawKit.callS X3 hx (y := (⟨"com/example/kosha/kosha/ByteHashOfPinLaw", "fill", "(J)[B"⟩ : MethodName)) hown (mvT hZ (hw _ (List.mem_of_getElem? (i := 0) rfl))) (mvT hZ (hw _ (List.mem_of_getElem? (i := 1) rfl))) (mvT hZ (hw _ (List.mem_of_getElem? (i := 2) rfl))) (mvT hZ (hw _ (List.mem_of_getElem? (i := 3) rfl))) (by decide) (backOf (W := 0) (rm1 l Z a0 hw [] q2 T3.heap n0 Z4 ) hZ (hw _ (List.mem_of_getElem? (i := 3) rfl)) (hw _ (List.mem_of_getElem? (i := 2) rfl)) (by decide) (by decide)) (g := (mkF m 38 #[.val (.long q1), .second, .val (.long q2), .second, .val (.int p3), .val (.int p4), .val (.int p5), .val (.int (own_n p4)), .val (.int (own_fa p4)), .val (.int (own_fb p4)), .val (.ref b1), .val (.ref b3), .unset, .unset, .unset, .unset, .unset, .unset, .unset, .unset, .unset] [(.long q2)])) rfl (by rw [hml]; rfl) (argsL := [(.long q2)]) (rest := []) (lenOf pd__J_AB_5 rfl) rfl (by show 2 * 0 + _ ≤ _; exact Nat.le_of_eq rfl) (hb hby at_38) (fun _ _ => ⟨rfl, rfl, (by decide : 2 + 1 ≤ _), (by decide : 16 + 8 ≤ _)⟩)
  dsimp only [Pt.U, Pt.locs, Pt.cells, Pt.slots] at X5 l5 y5 z5 st5 hQ5
  simp only [Nat.add_zero, Nat.zero_add, Nat.reduceAdd] at y5 z5
  subst y5 z5
  obtain ⟨rfl, N5q, K5, kk5, ff5, V5⟩ := hQ5
  have N5 : Fr n0 L5 := by rw [l5]; exact Fr.app N3 N5q
  clear l5
  obtain ⟨b5, gb5⟩ : ∃ z, z = T3.heap.size := ⟨_, rfl⟩
  rw [← gb5] at st5 V5
  have q6 := (V1.keep K3 nin0)
  have ne_b1_b5 : b1 ≠ b5 := Nat.ne_of_lt (Nat.lt_of_lt_of_le q6.lt (Nat.le_of_eq gb5.symm))
  have ne_b3_b5 : b3 ≠ b5 := Nat.ne_of_lt (Nat.lt_of_lt_of_le V3.lt (Nat.le_of_eq gb5.symm))
  have g_b5 : n0 ≤ b5 := Nat.le_trans Z4 (Nat.le_of_eq gb5.symm)
  refine Gd.st st5 ?_
  have Z7 : n0 ≤ T5.heap.size := Nat.le_trans Z4 K5.1
  show Gd p.tables e below _ (T5.setTop (mkF m 41 #[.val (.long q1), .second, .val (.long q2), .second, .val (.int p3), .val (.int p4), .val (.int p5), .val (.int (own_n p4)), .val (.int (own_fa p4)), .val (.int (own_fb p4)), .val (.ref b1), .val (.ref b3), .unset, .unset, .unset, .unset, .unset, .unset, .unset, .unset, .unset] [(.ref b5)]))
  refine Gd.st (fun _ k => XS.astore X5.here hx rfl (hb hby at_41) rfl rfl (l' := #[.val (.long q1), .second, .val (.long q2), .second, .val (.int p3), .val (.int p4), .val (.int p5), .val (.int (own_n p4)), .val (.int (own_fa p4)), .val (.int (own_fb p4)), .val (.ref b1), .val (.ref b3), .val (.ref b5), .unset, .unset, .unset, .unset, .unset, .unset, .unset, .unset]) rfl k) ?_
  show Gd p.tables e below _ (T5.setTop (mkF m 43 #[.val (.long q1), .second, .val (.long q2), .second, .val (.int p3), .val (.int p4), .val (.int p5), .val (.int (own_n p4)), .val (.int (own_fa p4)), .val (.int (own_fb p4)), .val (.ref b1), .val (.ref b3), .val (.ref b5), .unset, .unset, .unset, .unset, .unset, .unset, .unset, .unset] []))
  refine Gd.st (fun _ k => XS.aload X5.here hx rfl (hb hby at_43) rfl rfl k) ?_
  show Gd p.tables e below _ (T5.setTop (mkF m 45 #[.val (.long q1), .second, .val (.long q2), .second, .val (.int p3), .val (.int p4), .val (.int p5), .val (.int (own_n p4)), .val (.int (own_fa p4)), .val (.int (own_fb p4)), .val (.ref b1), .val (.ref b3), .val (.ref b5), .unset, .unset, .unset, .unset, .unset, .unset, .unset, .unset] [(.ref b1)]))
  refine Gd.st (fun _ k => XS.iload X5.here hx rfl (hb hby at_45) rfl k) ?_
  show Gd p.tables e below _ (T5.setTop (mkF m 47 #[.val (.long q1), .second, .val (.long q2), .second, .val (.int p3), .val (.int p4), .val (.int p5), .val (.int (own_n p4)), .val (.int (own_fa p4)), .val (.int (own_fb p4)), .val (.ref b1), .val (.ref b3), .val (.ref b5), .unset, .unset, .unset, .unset, .unset, .unset, .unset, .unset] [(.int (own_fa p4)), (.ref b1)]))
  refine Gd.st (fun _ k => XS.iload X5.here hx rfl (hb hby at_47) rfl k) ?_
  show Gd p.tables e below _ (T5.setTop (mkF m 49 #[.val (.long q1), .second, .val (.long q2), .second, .val (.int p3), .val (.int p4), .val (.int p5), .val (.int (own_n p4)), .val (.int (own_fa p4)), .val (.int (own_fb p4)), .val (.ref b1), .val (.ref b3), .val (.ref b5), .unset, .unset, .unset, .unset, .unset, .unset, .unset, .unset] [(.int (own_n p4)), (.int (own_fa p4)), (.ref b1)]))
  refine Gd.st (fun _ k => XS.iload X5.here hx rfl (hb hby at_49) rfl k) ?_
  show Gd p.tables e below _ (T5.setTop (mkF m 51 #[.val (.long q1), .second, .val (.long q2), .second, .val (.int p3), .val (.int p4), .val (.int p5), .val (.int (own_n p4)), .val (.int (own_fa p4)), .val (.int (own_fb p4)), .val (.ref b1), .val (.ref b3), .val (.ref b5), .unset, .unset, .unset, .unset, .unset, .unset, .unset, .unset] [(.int p3), (.int (own_n p4)), (.int (own_fa p4)), (.ref b1)]))
  have q9 := (q6.keep K5 nin0)
  obtain ⟨_, _, ⟨T8, L8, k8, n8⟩, -, X8, ⟨Lc8, hQ8, l8, y8, z8⟩, st8⟩ := Jvm.LawKit.callS X5 hx (y := (⟨"com/example/kosha/kosha/ByteHashOfPinLaw", "place", "([BIII)V"⟩ : MethodName)) hown (mvT hZ (hw _ (List.mem_of_getElem? (i := 5) rfl))) (mvT hZ (hw _ (List.mem_of_getElem? (i := 6) rfl))) (mvT hZ (hw _ (List.mem_of_getElem? (i := 2) rfl))) (mvT hZ (hw _ (List.mem_of_getElem? (i := 7) rfl))) (by decide) (backOf (W := 0) (rm2 l Z a0 hw [] b1 (own_fa p4) (own_n p4) p3 kk1 ff1 T5.heap n0 Z7 q9 g_b1 (own_far p4) (own_n5 p4)) hZ (hw _ (List.mem_of_getElem? (i := 7) rfl)) (hw _ (List.mem_of_getElem? (i := 2) rfl)) (by decide) (by decide)) (g := (mkF m 51 #[.val (.long q1), .second, .val (.long q2), .second, .val (.int p3), .val (.int p4), .val (.int p5), .val (.int (own_n p4)), .val (.int (own_fa p4)), .val (.int (own_fb p4)), .val (.ref b1), .val (.ref b3), .val (.ref b5), .unset, .unset, .unset, .unset, .unset, .unset, .unset, .unset] [(.int p3), (.int (own_n p4)), (.int (own_fa p4)), (.ref b1)])) rfl (by rw [hml]; rfl) (argsL := [(.ref b1), (.int (own_fa p4)), (.int (own_n p4)), (.int p3)]) (rest := []) (lenOf pd__ABIII_V_8 rfl) rfl (by show 2 * 0 + _ ≤ _; exact Nat.le_of_eq rfl) (hb hby at_51) (fun _ _ => ⟨rfl, rfl, (by decide : 3 + 0 ≤ _), (by decide : 24 + 0 ≤ _)⟩)
  dsimp only [Pt.U, Pt.locs, Pt.cells, Pt.slots] at X8 l8 y8 z8 st8 hQ8
  simp only [Nat.add_zero, Nat.zero_add, Nat.reduceAdd] at y8 z8
  subst y8 z8
  obtain ⟨rfl, N8q, K8, V8⟩ := hQ8
  have N8 : Fr n0 L8 := by rw [l8]; exact Fr.app N5 N8q
  clear l8
  refine Gd.st st8 ?_
  have Z10 : n0 ≤ T8.heap.size := Nat.le_trans Z7 K8.1
  show Gd p.tables e below _ (T8.setTop (mkF m 54 #[.val (.long q1), .second, .val (.long q2), .second, .val (.int p3), .val (.int p4), .val (.int p5), .val (.int (own_n p4)), .val (.int (own_fa p4)), .val (.int (own_fb p4)), .val (.ref b1), .val (.ref b3), .val (.ref b5), .unset, .unset, .unset, .unset, .unset, .unset, .unset, .unset] []))
  refine Gd.st (fun _ k => XS.aload X8.here hx rfl (hb hby at_54) rfl rfl k) ?_
  show Gd p.tables e below _ (T8.setTop (mkF m 56 #[.val (.long q1), .second, .val (.long q2), .second, .val (.int p3), .val (.int p4), .val (.int p5), .val (.int (own_n p4)), .val (.int (own_fa p4)), .val (.int (own_fb p4)), .val (.ref b1), .val (.ref b3), .val (.ref b5), .unset, .unset, .unset, .unset, .unset, .unset, .unset, .unset] [(.ref b3)]))
  refine Gd.st (fun _ k => XS.iload X8.here hx rfl (hb hby at_56) rfl k) ?_
  show Gd p.tables e below _ (T8.setTop (mkF m 58 #[.val (.long q1), .second, .val (.long q2), .second, .val (.int p3), .val (.int p4), .val (.int p5), .val (.int (own_n p4)), .val (.int (own_fa p4)), .val (.int (own_fb p4)), .val (.ref b1), .val (.ref b3), .val (.ref b5), .unset, .unset, .unset, .unset, .unset, .unset, .unset, .unset] [(.int (own_fb p4)), (.ref b3)]))
  refine Gd.st (fun _ k => XS.iload X8.here hx rfl (hb hby at_58) rfl k) ?_
  show Gd p.tables e below _ (T8.setTop (mkF m 60 #[.val (.long q1), .second, .val (.long q2), .second, .val (.int p3), .val (.int p4), .val (.int p5), .val (.int (own_n p4)), .val (.int (own_fa p4)), .val (.int (own_fb p4)), .val (.ref b1), .val (.ref b3), .val (.ref b5), .unset, .unset, .unset, .unset, .unset, .unset, .unset, .unset] [(.int (own_n p4)), (.int (own_fb p4)), (.ref b3)]))
  refine Gd.st (fun _ k => XS.iload X8.here hx rfl (hb hby at_60) rfl k) ?_
  show Gd p.tables e below _ (T8.setTop (mkF m 62 #[.val (.long q1), .second, .val (.long q2), .second, .val (.int p3), .val (.int p4), .val (.int p5), .val (.int (own_n p4)), .val (.int (own_fa p4)), .val (.int (own_fb p4)), .val (.ref b1), .val (.ref b3), .val (.ref b5), .unset, .unset, .unset, .unset, .unset, .unset, .unset, .unset] [(.int p3), (.int (own_n p4)), (.int (own_fb p4)), (.ref b3)]))
  have q12 := ((V3.keep K5 nin0).keep K8 (ninS (Ne.symm ne_b1_b3) nin0))
  obtain ⟨_, _, ⟨T11, L11, k11, n11⟩, -, X11, ⟨Lc11, hQ11, l11, y11, z11⟩, st11⟩ := Jvm.LawKit.callS X8 hx (y := (⟨"com/example/kosha/kosha/ByteHashOfPinLaw", "place", "([BIII)V"⟩ : MethodName)) hown (mvT hZ (hw _ (List.mem_of_getElem? (i := 5) rfl))) (mvT hZ (hw _ (List.mem_of_getElem? (i := 6) rfl))) (mvT hZ (hw _ (List.mem_of_getElem? (i := 2) rfl))) (mvT hZ (hw _ (List.mem_of_getElem? (i := 7) rfl))) (by decide) (backOf (W := 0) (rm2 l Z a0 hw [] b3 (own_fb p4) (own_n p4) p3 kk3 ff3 T8.heap n0 Z10 q12 g_b3 (own_fbr p4) (own_n5 p4)) hZ (hw _ (List.mem_of_getElem? (i := 7) rfl)) (hw _ (List.mem_of_getElem? (i := 2) rfl)) (by decide) (by decide)) (g := (mkF m 62 #[.val (.long q1), .second, .val (.long q2), .second, .val (.int p3), .val (.int p4), .val (.int p5), .val (.int (own_n p4)), .val (.int (own_fa p4)), .val (.int (own_fb p4)), .val (.ref b1), .val (.ref b3), .val (.ref b5), .unset, .unset, .unset, .unset, .unset, .unset, .unset, .unset] [(.int p3), (.int (own_n p4)), (.int (own_fb p4)), (.ref b3)])) rfl (by rw [hml]; rfl) (argsL := [(.ref b3), (.int (own_fb p4)), (.int (own_n p4)), (.int p3)]) (rest := []) (lenOf pd__ABIII_V_8 rfl) rfl (by show 2 * 0 + _ ≤ _; exact Nat.le_of_eq rfl) (hb hby at_62) (fun _ _ => ⟨rfl, rfl, (by decide : 3 + 0 ≤ _), (by decide : 24 + 0 ≤ _)⟩)
  dsimp only [Pt.U, Pt.locs, Pt.cells, Pt.slots] at X11 l11 y11 z11 st11 hQ11
  simp only [Nat.add_zero, Nat.zero_add, Nat.reduceAdd] at y11 z11
  subst y11 z11
  obtain ⟨rfl, N11q, K11, V11⟩ := hQ11
  have N11 : Fr n0 L11 := by rw [l11]; exact Fr.app N8 N11q
  clear l11
  refine Gd.st st11 ?_
  have Z13 : n0 ≤ T11.heap.size := Nat.le_trans Z10 K11.1
  show Gd p.tables e below _ (T11.setTop (mkF m 65 #[.val (.long q1), .second, .val (.long q2), .second, .val (.int p3), .val (.int p4), .val (.int p5), .val (.int (own_n p4)), .val (.int (own_fa p4)), .val (.int (own_fb p4)), .val (.ref b1), .val (.ref b3), .val (.ref b5), .unset, .unset, .unset, .unset, .unset, .unset, .unset, .unset] []))
  refine Gd.st (fun _ k => XS.aload X11.here hx rfl (hb hby at_65) rfl rfl k) ?_
  show Gd p.tables e below _ (T11.setTop (mkF m 67 #[.val (.long q1), .second, .val (.long q2), .second, .val (.int p3), .val (.int p4), .val (.int p5), .val (.int (own_n p4)), .val (.int (own_fa p4)), .val (.int (own_fb p4)), .val (.ref b1), .val (.ref b3), .val (.ref b5), .unset, .unset, .unset, .unset, .unset, .unset, .unset, .unset] [(.ref b5)]))
  refine Gd.st (fun _ k => XS.iload X11.here hx rfl (hb hby at_67) rfl k) ?_
  show Gd p.tables e below _ (T11.setTop (mkF m 69 #[.val (.long q1), .second, .val (.long q2), .second, .val (.int p3), .val (.int p4), .val (.int p5), .val (.int (own_n p4)), .val (.int (own_fa p4)), .val (.int (own_fb p4)), .val (.ref b1), .val (.ref b3), .val (.ref b5), .unset, .unset, .unset, .unset, .unset, .unset, .unset, .unset] [(.int (own_fb p4)), (.ref b5)]))
  refine Gd.st (fun _ k => XS.iload X11.here hx rfl (hb hby at_69) rfl k) ?_
  show Gd p.tables e below _ (T11.setTop (mkF m 71 #[.val (.long q1), .second, .val (.long q2), .second, .val (.int p3), .val (.int p4), .val (.int p5), .val (.int (own_n p4)), .val (.int (own_fa p4)), .val (.int (own_fb p4)), .val (.ref b1), .val (.ref b3), .val (.ref b5), .unset, .unset, .unset, .unset, .unset, .unset, .unset, .unset] [(.int (own_n p4)), (.int (own_fb p4)), (.ref b5)]))
  refine Gd.st (fun _ k => XS.iload X11.here hx rfl (hb hby at_71) rfl k) ?_
  show Gd p.tables e below _ (T11.setTop (mkF m 73 #[.val (.long q1), .second, .val (.long q2), .second, .val (.int p3), .val (.int p4), .val (.int p5), .val (.int (own_n p4)), .val (.int (own_fa p4)), .val (.int (own_fb p4)), .val (.ref b1), .val (.ref b3), .val (.ref b5), .unset, .unset, .unset, .unset, .unset, .unset, .unset, .unset] [(.int p3), (.int (own_n p4)), (.int (own_fb p4)), (.ref b5)]))
  have q15 := ((V5.keep K8 (ninS (Ne.symm ne_b1_b5) nin0)).keep K11 (ninS (Ne.symm ne_b3_b5) nin0))
  obtain ⟨_, _, ⟨T14, L14, k14, n14⟩, -, X14, ⟨Lc14, hQ14, l14, y14, z14⟩, st14⟩ := Jvm.LawKit.callS X11 hx (y := (⟨"com/example/kosha/kosha/ByteHashOfPinLaw", "place", "([BIII)V"⟩ : MethodName)) hown (mvT hZ (hw _ (List.mem_of_getElem? (i := 5) rfl))) (mvT hZ (hw _ (List.mem_of_getElem? (i := 6) rfl))) (mvT hZ (hw _ (List.mem_of_getElem? (i := 2) rfl))) (mvT hZ (hw _ (List.mem_of_getElem? (i := 7) rfl))) (by decide) (backOf (W := 0) (rm2 l Z a0 hw [] b5 (own_fb p4) (own_n p4) p3 kk5 ff5 T11.heap n0 Z13 q15 g_b5 (own_fbr p4) (own_n5 p4)) hZ (hw _ (List.mem_of_getElem? (i := 7) rfl)) (hw _ (List.mem_of_getElem? (i := 2) rfl)) (by decide) (by decide)) (g := (mkF m 73 #[.val (.long q1), .second, .val (.long q2), .second, .val (.int p3), .val (.int p4), .val (.int p5), .val (.int (own_n p4)), .val (.int (own_fa p4)), .val (.int (own_fb p4)), .val (.ref b1), .val (.ref b3), .val (.ref b5), .unset, .unset, .unset, .unset, .unset, .unset, .unset, .unset] [(.int p3), (.int (own_n p4)), (.int (own_fb p4)), (.ref b5)])) rfl (by rw [hml]; rfl) (argsL := [(.ref b5), (.int (own_fb p4)), (.int (own_n p4)), (.int p3)]) (rest := []) (lenOf pd__ABIII_V_8 rfl) rfl (by show 2 * 0 + _ ≤ _; exact Nat.le_of_eq rfl) (hb hby at_73) (fun _ _ => ⟨rfl, rfl, (by decide : 3 + 0 ≤ _), (by decide : 24 + 0 ≤ _)⟩)
  dsimp only [Pt.U, Pt.locs, Pt.cells, Pt.slots] at X14 l14 y14 z14 st14 hQ14
  simp only [Nat.add_zero, Nat.zero_add, Nat.reduceAdd] at y14 z14
  subst y14 z14
  obtain ⟨rfl, N14q, K14, V14⟩ := hQ14
  have N14 : Fr n0 L14 := by rw [l14]; exact Fr.app N11 N14q
  clear l14
  refine Gd.st st14 ?_
  have Z16 : n0 ≤ T14.heap.size := Nat.le_trans Z13 K14.1
  show Gd p.tables e below _ (T14.setTop (mkF m 76 #[.val (.long q1), .second, .val (.long q2), .second, .val (.int p3), .val (.int p4), .val (.int p5), .val (.int (own_n p4)), .val (.int (own_fa p4)), .val (.int (own_fb p4)), .val (.ref b1), .val (.ref b3), .val (.ref b5), .unset, .unset, .unset, .unset, .unset, .unset, .unset, .unset] []))
  refine Gd.st (fun _ k => XS.aload X14.here hx rfl (hb hby at_76) rfl rfl k) ?_
  show Gd p.tables e below _ (T14.setTop (mkF m 78 #[.val (.long q1), .second, .val (.long q2), .second, .val (.int p3), .val (.int p4), .val (.int p5), .val (.int (own_n p4)), .val (.int (own_fa p4)), .val (.int (own_fb p4)), .val (.ref b1), .val (.ref b3), .val (.ref b5), .unset, .unset, .unset, .unset, .unset, .unset, .unset, .unset] [(.ref b1)]))
  refine Gd.st (fun _ k => XS.iload X14.here hx rfl (hb hby at_78) rfl k) ?_
  show Gd p.tables e below _ (T14.setTop (mkF m 80 #[.val (.long q1), .second, .val (.long q2), .second, .val (.int p3), .val (.int p4), .val (.int p5), .val (.int (own_n p4)), .val (.int (own_fa p4)), .val (.int (own_fb p4)), .val (.ref b1), .val (.ref b3), .val (.ref b5), .unset, .unset, .unset, .unset, .unset, .unset, .unset, .unset] [(.int (own_fa p4)), (.ref b1)]))
  refine Gd.st (fun _ k => XS.iload X14.here hx rfl (hb hby at_80) rfl k) ?_
  show Gd p.tables e below _ (T14.setTop (mkF m 82 #[.val (.long q1), .second, .val (.long q2), .second, .val (.int p3), .val (.int p4), .val (.int p5), .val (.int (own_n p4)), .val (.int (own_fa p4)), .val (.int (own_fb p4)), .val (.ref b1), .val (.ref b3), .val (.ref b5), .unset, .unset, .unset, .unset, .unset, .unset, .unset, .unset] [(.int (own_fa p4)), (.int (own_fa p4)), (.ref b1)]))
  refine Gd.st (fun _ k => XS.iload X14.here hx rfl (hb hby at_82) rfl k) ?_
  show Gd p.tables e below _ (T14.setTop (mkF m 84 #[.val (.long q1), .second, .val (.long q2), .second, .val (.int p3), .val (.int p4), .val (.int p5), .val (.int (own_n p4)), .val (.int (own_fa p4)), .val (.int (own_fb p4)), .val (.ref b1), .val (.ref b3), .val (.ref b5), .unset, .unset, .unset, .unset, .unset, .unset, .unset, .unset] [(.int (own_n p4)), (.int (own_fa p4)), (.int (own_fa p4)), (.ref b1)]))
  refine Gd.st (fun _ k => XS.iadd X14.here hx rfl (hb hby at_84) rfl k) ?_
  show Gd p.tables e below _ (T14.setTop (mkF m 85 #[.val (.long q1), .second, .val (.long q2), .second, .val (.int p3), .val (.int p4), .val (.int p5), .val (.int (own_n p4)), .val (.int (own_fa p4)), .val (.int (own_fb p4)), .val (.ref b1), .val (.ref b3), .val (.ref b5), .unset, .unset, .unset, .unset, .unset, .unset, .unset, .unset] [(.int ((own_fa p4) + (own_n p4))), (.int (own_fa p4)), (.ref b1)]))
  have q18 := ((V8.keep K11 (ninS ne_b1_b3 nin0)).keep K14 (ninS ne_b1_b5 nin0))
  obtain ⟨_, _, ⟨T17, L17, k17, n17⟩, -, X17, ⟨Lc17, hQ17, l17, y17, z17⟩, st17⟩ := Jvm.LawKit.callS X14 hx (y := (⟨"com/example/kosha/kosha/ByteHash", "of", "([BII)J"⟩ : MethodName)) hown (mvT hZ (hw _ (List.mem_of_getElem? (i := 8) rfl))) (mvT hZ (hw _ (List.mem_of_getElem? (i := 9) rfl))) (mvT hZ (hw _ (List.mem_of_getElem? (i := 10) rfl))) (mvT hZ (hw _ (List.mem_of_getElem? (i := 11) rfl))) (by decide) (backOf (W := 0) (rm3 l Z a0 hw [] b1 (own_fa p4) ((own_fa p4) + (own_n p4)) kk1 (own_place ff1 (own_fa p4) (own_n p4) p3) (own_n p4).toNatClampNeg T14.heap n0 Z16 q18 (own_ofp _ _ (own_far p4) (own_nr p4))) hZ (hw _ (List.mem_of_getElem? (i := 11) rfl)) (hw _ (List.mem_of_getElem? (i := 10) rfl)) (by decide) (by decide)) (g := (mkF m 85 #[.val (.long q1), .second, .val (.long q2), .second, .val (.int p3), .val (.int p4), .val (.int p5), .val (.int (own_n p4)), .val (.int (own_fa p4)), .val (.int (own_fb p4)), .val (.ref b1), .val (.ref b3), .val (.ref b5), .unset, .unset, .unset, .unset, .unset, .unset, .unset, .unset] [(.int ((own_fa p4) + (own_n p4))), (.int (own_fa p4)), (.ref b1)])) rfl (by rw [hml]; rfl) (argsL := [(.ref b1), (.int (own_fa p4)), (.int ((own_fa p4) + (own_n p4)))]) (rest := []) (lenOf pd__ABII_J_7 rfl) rfl (by show 2 * 0 + _ ≤ _; exact Nat.le_of_eq rfl) (hb hby at_85) (fun _ _ => ⟨rfl, rfl, (by decide : 3 + 0 ≤ _), (by decide : 24 + 0 ≤ _)⟩)
  dsimp only [Pt.U, Pt.locs, Pt.cells, Pt.slots] at X17 l17 y17 z17 st17 hQ17
  simp only [Nat.add_zero, Nat.zero_add, Nat.reduceAdd] at y17 z17
  subst y17 z17
  obtain ⟨rfl, N17q, eh17⟩ := hQ17
  have N17 : Fr n0 L17 := by rw [l17]; exact Fr.app N14 N17q
  clear l17
  refine Gd.st st17 ?_
  have e17 : T17.heap = T14.heap := eh17
  show Gd p.tables e below _ (T17.setTop (mkF m 88 #[.val (.long q1), .second, .val (.long q2), .second, .val (.int p3), .val (.int p4), .val (.int p5), .val (.int (own_n p4)), .val (.int (own_fa p4)), .val (.int (own_fb p4)), .val (.ref b1), .val (.ref b3), .val (.ref b5), .unset, .unset, .unset, .unset, .unset, .unset, .unset, .unset] [(.long (own_of (own_place ff1 (own_fa p4) (own_n p4) p3) (own_fa p4) (own_n p4).toNatClampNeg))]))
  refine Gd.st (fun _ k => XS.lstore X17.here hx rfl (hb hby at_88) rfl (l' := #[.val (.long q1), .second, .val (.long q2), .second, .val (.int p3), .val (.int p4), .val (.int p5), .val (.int (own_n p4)), .val (.int (own_fa p4)), .val (.int (own_fb p4)), .val (.ref b1), .val (.ref b3), .val (.ref b5), .val (.long (own_of (own_place ff1 (own_fa p4) (own_n p4) p3) (own_fa p4) (own_n p4).toNatClampNeg)), .second, .unset, .unset, .unset, .unset, .unset, .unset]) rfl k) ?_
  show Gd p.tables e below _ (T17.setTop (mkF m 90 #[.val (.long q1), .second, .val (.long q2), .second, .val (.int p3), .val (.int p4), .val (.int p5), .val (.int (own_n p4)), .val (.int (own_fa p4)), .val (.int (own_fb p4)), .val (.ref b1), .val (.ref b3), .val (.ref b5), .val (.long (own_of (own_place ff1 (own_fa p4) (own_n p4) p3) (own_fa p4) (own_n p4).toNatClampNeg)), .second, .unset, .unset, .unset, .unset, .unset, .unset] []))
  refine Gd.st (fun _ k => XS.aload X17.here hx rfl (hb hby at_90) rfl rfl k) ?_
  show Gd p.tables e below _ (T17.setTop (mkF m 92 #[.val (.long q1), .second, .val (.long q2), .second, .val (.int p3), .val (.int p4), .val (.int p5), .val (.int (own_n p4)), .val (.int (own_fa p4)), .val (.int (own_fb p4)), .val (.ref b1), .val (.ref b3), .val (.ref b5), .val (.long (own_of (own_place ff1 (own_fa p4) (own_n p4) p3) (own_fa p4) (own_n p4).toNatClampNeg)), .second, .unset, .unset, .unset, .unset, .unset, .unset] [(.ref b3)]))
  refine Gd.st (fun _ k => XS.iload X17.here hx rfl (hb hby at_92) rfl k) ?_
  show Gd p.tables e below _ (T17.setTop (mkF m 94 #[.val (.long q1), .second, .val (.long q2), .second, .val (.int p3), .val (.int p4), .val (.int p5), .val (.int (own_n p4)), .val (.int (own_fa p4)), .val (.int (own_fb p4)), .val (.ref b1), .val (.ref b3), .val (.ref b5), .val (.long (own_of (own_place ff1 (own_fa p4) (own_n p4) p3) (own_fa p4) (own_n p4).toNatClampNeg)), .second, .unset, .unset, .unset, .unset, .unset, .unset] [(.int (own_fb p4)), (.ref b3)]))
  refine Gd.st (fun _ k => XS.iload X17.here hx rfl (hb hby at_94) rfl k) ?_
  show Gd p.tables e below _ (T17.setTop (mkF m 96 #[.val (.long q1), .second, .val (.long q2), .second, .val (.int p3), .val (.int p4), .val (.int p5), .val (.int (own_n p4)), .val (.int (own_fa p4)), .val (.int (own_fb p4)), .val (.ref b1), .val (.ref b3), .val (.ref b5), .val (.long (own_of (own_place ff1 (own_fa p4) (own_n p4) p3) (own_fa p4) (own_n p4).toNatClampNeg)), .second, .unset, .unset, .unset, .unset, .unset, .unset] [(.int (own_fb p4)), (.int (own_fb p4)), (.ref b3)]))
  refine Gd.st (fun _ k => XS.iload X17.here hx rfl (hb hby at_96) rfl k) ?_
  show Gd p.tables e below _ (T17.setTop (mkF m 98 #[.val (.long q1), .second, .val (.long q2), .second, .val (.int p3), .val (.int p4), .val (.int p5), .val (.int (own_n p4)), .val (.int (own_fa p4)), .val (.int (own_fb p4)), .val (.ref b1), .val (.ref b3), .val (.ref b5), .val (.long (own_of (own_place ff1 (own_fa p4) (own_n p4) p3) (own_fa p4) (own_n p4).toNatClampNeg)), .second, .unset, .unset, .unset, .unset, .unset, .unset] [(.int (own_n p4)), (.int (own_fb p4)), (.int (own_fb p4)), (.ref b3)]))
  refine Gd.st (fun _ k => XS.iadd X17.here hx rfl (hb hby at_98) rfl k) ?_
  show Gd p.tables e below _ (T17.setTop (mkF m 99 #[.val (.long q1), .second, .val (.long q2), .second, .val (.int p3), .val (.int p4), .val (.int p5), .val (.int (own_n p4)), .val (.int (own_fa p4)), .val (.int (own_fb p4)), .val (.ref b1), .val (.ref b3), .val (.ref b5), .val (.long (own_of (own_place ff1 (own_fa p4) (own_n p4) p3) (own_fa p4) (own_n p4).toNatClampNeg)), .second, .unset, .unset, .unset, .unset, .unset, .unset] [(.int ((own_fb p4) + (own_n p4))), (.int (own_fb p4)), (.ref b3)]))
  have q20 := (V11.keep K14 (ninS ne_b3_b5 nin0))
  obtain ⟨_, _, ⟨T19, L19, k19, n19⟩, -, X19, ⟨Lc19, hQ19, l19, y19, z19⟩, st19⟩ := Jvm.LawKit.callS X17 hx (y := (⟨"com/example/kosha/kosha/ByteHash", "of", "([BII)J"⟩ : MethodName)) hown (mvT hZ (hw _ (List.mem_of_getElem? (i := 8) rfl))) (mvT hZ (hw _ (List.mem_of_getElem? (i := 9) rfl))) (mvT hZ (hw _ (List.mem_of_getElem? (i := 10) rfl))) (mvT hZ (hw _ (List.mem_of_getElem? (i := 11) rfl))) (by decide) (backOf (W := 0) (rm3 l Z a0 hw [] b3 (own_fb p4) ((own_fb p4) + (own_n p4)) kk3 (own_place ff3 (own_fb p4) (own_n p4) p3) (own_n p4).toNatClampNeg T14.heap n0 Z16 q20 (own_ofp _ _ (own_fbr p4) (own_nr p4))) hZ (hw _ (List.mem_of_getElem? (i := 11) rfl)) (hw _ (List.mem_of_getElem? (i := 10) rfl)) (by decide) (by decide)) (g := (mkF m 99 #[.val (.long q1), .second, .val (.long q2), .second, .val (.int p3), .val (.int p4), .val (.int p5), .val (.int (own_n p4)), .val (.int (own_fa p4)), .val (.int (own_fb p4)), .val (.ref b1), .val (.ref b3), .val (.ref b5), .val (.long (own_of (own_place ff1 (own_fa p4) (own_n p4) p3) (own_fa p4) (own_n p4).toNatClampNeg)), .second, .unset, .unset, .unset, .unset, .unset, .unset] [(.int ((own_fb p4) + (own_n p4))), (.int (own_fb p4)), (.ref b3)])) rfl (by rw [hml]; rfl) (argsL := [(.ref b3), (.int (own_fb p4)), (.int ((own_fb p4) + (own_n p4)))]) (rest := []) (lenOf pd__ABII_J_7 rfl) rfl (by show 2 * 0 + _ ≤ _; exact Nat.le_of_eq rfl) (hb hby at_99) (fun _ _ => ⟨rfl, e17, (by decide : 3 + 0 ≤ _), (by decide : 24 + 0 ≤ _)⟩)
  dsimp only [Pt.U, Pt.locs, Pt.cells, Pt.slots] at X19 l19 y19 z19 st19 hQ19
  simp only [Nat.add_zero, Nat.zero_add, Nat.reduceAdd] at y19 z19
  subst y19 z19
  obtain ⟨rfl, N19q, eh19⟩ := hQ19
  have N19 : Fr n0 L19 := by rw [l19]; exact Fr.app N17 N19q
  clear l19
  refine Gd.st st19 ?_
  have e19 : T19.heap = T14.heap := eh19
  show Gd p.tables e below _ (T19.setTop (mkF m 102 #[.val (.long q1), .second, .val (.long q2), .second, .val (.int p3), .val (.int p4), .val (.int p5), .val (.int (own_n p4)), .val (.int (own_fa p4)), .val (.int (own_fb p4)), .val (.ref b1), .val (.ref b3), .val (.ref b5), .val (.long (own_of (own_place ff1 (own_fa p4) (own_n p4) p3) (own_fa p4) (own_n p4).toNatClampNeg)), .second, .unset, .unset, .unset, .unset, .unset, .unset] [(.long (own_of (own_place ff3 (own_fb p4) (own_n p4) p3) (own_fb p4) (own_n p4).toNatClampNeg))]))
  refine Gd.st (fun _ k => XS.lstore X19.here hx rfl (hb hby at_102) rfl (l' := #[.val (.long q1), .second, .val (.long q2), .second, .val (.int p3), .val (.int p4), .val (.int p5), .val (.int (own_n p4)), .val (.int (own_fa p4)), .val (.int (own_fb p4)), .val (.ref b1), .val (.ref b3), .val (.ref b5), .val (.long (own_of (own_place ff1 (own_fa p4) (own_n p4) p3) (own_fa p4) (own_n p4).toNatClampNeg)), .second, .val (.long (own_of (own_place ff3 (own_fb p4) (own_n p4) p3) (own_fb p4) (own_n p4).toNatClampNeg)), .second, .unset, .unset, .unset, .unset]) rfl k) ?_
  show Gd p.tables e below _ (T19.setTop (mkF m 104 #[.val (.long q1), .second, .val (.long q2), .second, .val (.int p3), .val (.int p4), .val (.int p5), .val (.int (own_n p4)), .val (.int (own_fa p4)), .val (.int (own_fb p4)), .val (.ref b1), .val (.ref b3), .val (.ref b5), .val (.long (own_of (own_place ff1 (own_fa p4) (own_n p4) p3) (own_fa p4) (own_n p4).toNatClampNeg)), .second, .val (.long (own_of (own_place ff3 (own_fb p4) (own_n p4) p3) (own_fb p4) (own_n p4).toNatClampNeg)), .second, .unset, .unset, .unset, .unset] []))
  refine Gd.st (fun _ k => XS.lload X19.here hx rfl (hb hby at_104) rfl k) ?_
  show Gd p.tables e below _ (T19.setTop (mkF m 106 #[.val (.long q1), .second, .val (.long q2), .second, .val (.int p3), .val (.int p4), .val (.int p5), .val (.int (own_n p4)), .val (.int (own_fa p4)), .val (.int (own_fb p4)), .val (.ref b1), .val (.ref b3), .val (.ref b5), .val (.long (own_of (own_place ff1 (own_fa p4) (own_n p4) p3) (own_fa p4) (own_n p4).toNatClampNeg)), .second, .val (.long (own_of (own_place ff3 (own_fb p4) (own_n p4) p3) (own_fb p4) (own_n p4).toNatClampNeg)), .second, .unset, .unset, .unset, .unset] [(.long (own_of (own_place ff1 (own_fa p4) (own_n p4) p3) (own_fa p4) (own_n p4).toNatClampNeg))]))
  refine Gd.st (fun _ k => XS.lload X19.here hx rfl (hb hby at_106) rfl k) ?_
  show Gd p.tables e below _ (T19.setTop (mkF m 108 #[.val (.long q1), .second, .val (.long q2), .second, .val (.int p3), .val (.int p4), .val (.int p5), .val (.int (own_n p4)), .val (.int (own_fa p4)), .val (.int (own_fb p4)), .val (.ref b1), .val (.ref b3), .val (.ref b5), .val (.long (own_of (own_place ff1 (own_fa p4) (own_n p4) p3) (own_fa p4) (own_n p4).toNatClampNeg)), .second, .val (.long (own_of (own_place ff3 (own_fb p4) (own_n p4) p3) (own_fb p4) (own_n p4).toNatClampNeg)), .second, .unset, .unset, .unset, .unset] [(.long (own_of (own_place ff3 (own_fb p4) (own_n p4) p3) (own_fb p4) (own_n p4).toNatClampNeg)), (.long (own_of (own_place ff1 (own_fa p4) (own_n p4) p3) (own_fa p4) (own_n p4).toNatClampNeg))]))
  refine Gd.st (fun _ k => XS.lcmp X19.here hx rfl (hb hby at_108) rfl k) ?_
  show Gd p.tables e below _ (T19.setTop (mkF m 109 #[.val (.long q1), .second, .val (.long q2), .second, .val (.int p3), .val (.int p4), .val (.int p5), .val (.int (own_n p4)), .val (.int (own_fa p4)), .val (.int (own_fb p4)), .val (.ref b1), .val (.ref b3), .val (.ref b5), .val (.long (own_of (own_place ff1 (own_fa p4) (own_n p4) p3) (own_fa p4) (own_n p4).toNatClampNeg)), .second, .val (.long (own_of (own_place ff3 (own_fb p4) (own_n p4) p3) (own_fb p4) (own_n p4).toNatClampNeg)), .second, .unset, .unset, .unset, .unset] [(.int (lcmpW (own_of (own_place ff1 (own_fa p4) (own_n p4) p3) (own_fa p4) (own_n p4).toNatClampNeg) (own_of (own_place ff3 (own_fb p4) (own_n p4) p3) (own_fb p4) (own_n p4).toNatClampNeg)))]))
  refine Gd.st (fun _ k => XS.ifYes X19.here hx rfl (pc0 := 109) (pc' := 114) rfl (hb hby at_109) rfl ((if0 _ _).trans (teq ((lw_eq (own_of (own_place ff1 (own_fa p4) (own_n p4) p3) (own_fa p4) (own_n p4).toNatClampNeg) (own_of (own_place ff3 (own_fb p4) (own_n p4) p3) (own_fb p4) (own_n p4).toNatClampNeg)).mpr (own_same _ _ p4 p3))).1) (by decide) (by decide) k) ?_
  show Gd p.tables e below _ (T19.setTop (mkF m 114 #[.val (.long q1), .second, .val (.long q2), .second, .val (.int p3), .val (.int p4), .val (.int p5), .val (.int (own_n p4)), .val (.int (own_fa p4)), .val (.int (own_fb p4)), .val (.ref b1), .val (.ref b3), .val (.ref b5), .val (.long (own_of (own_place ff1 (own_fa p4) (own_n p4) p3) (own_fa p4) (own_n p4).toNatClampNeg)), .second, .val (.long (own_of (own_place ff3 (own_fb p4) (own_n p4) p3) (own_fb p4) (own_n p4).toNatClampNeg)), .second, .unset, .unset, .unset, .unset] []))
  refine Gd.st (fun _ k => XS.iload X19.here hx rfl (hb hby at_114) rfl k) ?_
  show Gd p.tables e below _ (T19.setTop (mkF m 116 #[.val (.long q1), .second, .val (.long q2), .second, .val (.int p3), .val (.int p4), .val (.int p5), .val (.int (own_n p4)), .val (.int (own_fa p4)), .val (.int (own_fb p4)), .val (.ref b1), .val (.ref b3), .val (.ref b5), .val (.long (own_of (own_place ff1 (own_fa p4) (own_n p4) p3) (own_fa p4) (own_n p4).toNatClampNeg)), .second, .val (.long (own_of (own_place ff3 (own_fb p4) (own_n p4) p3) (own_fb p4) (own_n p4).toNatClampNeg)), .second, .unset, .unset, .unset, .unset] [(.int (own_n p4))]))
  by_cases hc116 : (own_n p4) = (0 : Int32)
  · skip
    refine Gd.st (fun _ k => XS.ifNo X19.here hx rfl (hb hby at_116) rfl ((if0 _ _).trans (teq hc116).2) k) ?_
    show Gd p.tables e below _ (T19.setTop (mkF m 119 #[.val (.long q1), .second, .val (.long q2), .second, .val (.int p3), .val (.int p4), .val (.int p5), .val (.int (own_n p4)), .val (.int (own_fa p4)), .val (.int (own_fb p4)), .val (.ref b1), .val (.ref b3), .val (.ref b5), .val (.long (own_of (own_place ff1 (own_fa p4) (own_n p4) p3) (own_fa p4) (own_n p4).toNatClampNeg)), .second, .val (.long (own_of (own_place ff3 (own_fb p4) (own_n p4) p3) (own_fb p4) (own_n p4).toNatClampNeg)), .second, .unset, .unset, .unset, .unset] []))
    refine Gd.st (fun _ k => XS.iconst X19.here hx rfl (hb hby at_119) k) ?_
    show Gd p.tables e below _ (T19.setTop (mkF m 120 #[.val (.long q1), .second, .val (.long q2), .second, .val (.int p3), .val (.int p4), .val (.int p5), .val (.int (own_n p4)), .val (.int (own_fa p4)), .val (.int (own_fb p4)), .val (.ref b1), .val (.ref b3), .val (.ref b5), .val (.long (own_of (own_place ff1 (own_fa p4) (own_n p4) p3) (own_fa p4) (own_n p4).toNatClampNeg)), .second, .val (.long (own_of (own_place ff3 (own_fb p4) (own_n p4) p3) (own_fb p4) (own_n p4).toNatClampNeg)), .second, .unset, .unset, .unset, .unset] [(.int (1 : Int32))]))
    obtain ⟨fs, hr, hrun, hended, hW, hsame⟩ := X19.leave (v := some (.int (1 : Int32))) (fun h => by rw [Bd.returns] at h; cases h) Bd.notSynchronized
    refine Gd.mk (o := .returned (some (.int (1 : Int32)))) (retN X19 hx (t := .boolean) Bd.returns (by simp) (hb hby at_120) hr) ⟨hrun, hended, _, _, rfl, ?_, ⟨_, rfl⟩, hW, hsame.mono (by decide) (by decide)⟩
    show Q0 Z q1 q2 p3 p4 p5 h0 n0 _ T19.heap _
    rw [e19]
    exact ⟨rfl, N19⟩
  · skip
    refine Gd.st (fun _ k => XS.ifYes X19.here hx rfl (pc0 := 116) (pc' := 121) rfl (hb hby at_116) rfl ((if0 _ _).trans (feq hc116).2) (by decide) (by decide) k) ?_
    show Gd p.tables e below _ (T19.setTop (mkF m 121 #[.val (.long q1), .second, .val (.long q2), .second, .val (.int p3), .val (.int p4), .val (.int p5), .val (.int (own_n p4)), .val (.int (own_fa p4)), .val (.int (own_fb p4)), .val (.ref b1), .val (.ref b3), .val (.ref b5), .val (.long (own_of (own_place ff1 (own_fa p4) (own_n p4) p3) (own_fa p4) (own_n p4).toNatClampNeg)), .second, .val (.long (own_of (own_place ff3 (own_fb p4) (own_n p4) p3) (own_fb p4) (own_n p4).toNatClampNeg)), .second, .unset, .unset, .unset, .unset] []))
    refine Gd.st (fun _ k => XS.iload X19.here hx rfl (hb hby at_121) rfl k) ?_
    show Gd p.tables e below _ (T19.setTop (mkF m 123 #[.val (.long q1), .second, .val (.long q2), .second, .val (.int p3), .val (.int p4), .val (.int p5), .val (.int (own_n p4)), .val (.int (own_fa p4)), .val (.int (own_fb p4)), .val (.ref b1), .val (.ref b3), .val (.ref b5), .val (.long (own_of (own_place ff1 (own_fa p4) (own_n p4) p3) (own_fa p4) (own_n p4).toNatClampNeg)), .second, .val (.long (own_of (own_place ff3 (own_fb p4) (own_n p4) p3) (own_fb p4) (own_n p4).toNatClampNeg)), .second, .unset, .unset, .unset, .unset] [(.int p5)]))
    refine Gd.st (fun _ k => XS.iconst X19.here hx rfl (hb hby at_123) k) ?_
    show Gd p.tables e below _ (T19.setTop (mkF m 124 #[.val (.long q1), .second, .val (.long q2), .second, .val (.int p3), .val (.int p4), .val (.int p5), .val (.int (own_n p4)), .val (.int (own_fa p4)), .val (.int (own_fb p4)), .val (.ref b1), .val (.ref b3), .val (.ref b5), .val (.long (own_of (own_place ff1 (own_fa p4) (own_n p4) p3) (own_fa p4) (own_n p4).toNatClampNeg)), .second, .val (.long (own_of (own_place ff3 (own_fb p4) (own_n p4) p3) (own_fb p4) (own_n p4).toNatClampNeg)), .second, .unset, .unset, .unset, .unset] [(.int (3 : Int32)), (.int p5)]))
    refine Gd.st (fun _ k => XS.iand X19.here hx rfl (hb hby at_124) rfl k) ?_
    show Gd p.tables e below _ (T19.setTop (mkF m 125 #[.val (.long q1), .second, .val (.long q2), .second, .val (.int p3), .val (.int p4), .val (.int p5), .val (.int (own_n p4)), .val (.int (own_fa p4)), .val (.int (own_fb p4)), .val (.ref b1), .val (.ref b3), .val (.ref b5), .val (.long (own_of (own_place ff1 (own_fa p4) (own_n p4) p3) (own_fa p4) (own_n p4).toNatClampNeg)), .second, .val (.long (own_of (own_place ff3 (own_fb p4) (own_n p4) p3) (own_fb p4) (own_n p4).toNatClampNeg)), .second, .unset, .unset, .unset, .unset] [(.int (p5 &&& (3 : Int32)))]))
    refine Gd.st (fun _ k => XS.iload X19.here hx rfl (hb hby at_125) rfl k) ?_
    show Gd p.tables e below _ (T19.setTop (mkF m 127 #[.val (.long q1), .second, .val (.long q2), .second, .val (.int p3), .val (.int p4), .val (.int p5), .val (.int (own_n p4)), .val (.int (own_fa p4)), .val (.int (own_fb p4)), .val (.ref b1), .val (.ref b3), .val (.ref b5), .val (.long (own_of (own_place ff1 (own_fa p4) (own_n p4) p3) (own_fa p4) (own_n p4).toNatClampNeg)), .second, .val (.long (own_of (own_place ff3 (own_fb p4) (own_n p4) p3) (own_fb p4) (own_n p4).toNatClampNeg)), .second, .unset, .unset, .unset, .unset] [(.int (own_n p4)), (.int (p5 &&& (3 : Int32)))]))
    refine Gd.st (fun _ k => XS.irem X19.here hx rfl (hb hby at_127) rfl hc116 k) ?_
    show Gd p.tables e below _ (T19.setTop (mkF m 128 #[.val (.long q1), .second, .val (.long q2), .second, .val (.int p3), .val (.int p4), .val (.int p5), .val (.int (own_n p4)), .val (.int (own_fa p4)), .val (.int (own_fb p4)), .val (.ref b1), .val (.ref b3), .val (.ref b5), .val (.long (own_of (own_place ff1 (own_fa p4) (own_n p4) p3) (own_fa p4) (own_n p4).toNatClampNeg)), .second, .val (.long (own_of (own_place ff3 (own_fb p4) (own_n p4) p3) (own_fb p4) (own_n p4).toNatClampNeg)), .second, .unset, .unset, .unset, .unset] [(.int (own_kk p5 (own_n p4)))]))
    refine Gd.st (fun _ k => XS.istore X19.here hx rfl (hb hby at_128) rfl (l' := #[.val (.long q1), .second, .val (.long q2), .second, .val (.int p3), .val (.int p4), .val (.int p5), .val (.int (own_n p4)), .val (.int (own_fa p4)), .val (.int (own_fb p4)), .val (.ref b1), .val (.ref b3), .val (.ref b5), .val (.long (own_of (own_place ff1 (own_fa p4) (own_n p4) p3) (own_fa p4) (own_n p4).toNatClampNeg)), .second, .val (.long (own_of (own_place ff3 (own_fb p4) (own_n p4) p3) (own_fb p4) (own_n p4).toNatClampNeg)), .second, .val (.int (own_kk p5 (own_n p4))), .unset, .unset, .unset]) rfl k) ?_
    show Gd p.tables e below _ (T19.setTop (mkF m 130 #[.val (.long q1), .second, .val (.long q2), .second, .val (.int p3), .val (.int p4), .val (.int p5), .val (.int (own_n p4)), .val (.int (own_fa p4)), .val (.int (own_fb p4)), .val (.ref b1), .val (.ref b3), .val (.ref b5), .val (.long (own_of (own_place ff1 (own_fa p4) (own_n p4) p3) (own_fa p4) (own_n p4).toNatClampNeg)), .second, .val (.long (own_of (own_place ff3 (own_fb p4) (own_n p4) p3) (own_fb p4) (own_n p4).toNatClampNeg)), .second, .val (.int (own_kk p5 (own_n p4))), .unset, .unset, .unset] []))
    refine Gd.st (fun _ k => XS.iconst X19.here hx rfl (hb hby at_130) k) ?_
    show Gd p.tables e below _ (T19.setTop (mkF m 131 #[.val (.long q1), .second, .val (.long q2), .second, .val (.int p3), .val (.int p4), .val (.int p5), .val (.int (own_n p4)), .val (.int (own_fa p4)), .val (.int (own_fb p4)), .val (.ref b1), .val (.ref b3), .val (.ref b5), .val (.long (own_of (own_place ff1 (own_fa p4) (own_n p4) p3) (own_fa p4) (own_n p4).toNatClampNeg)), .second, .val (.long (own_of (own_place ff3 (own_fb p4) (own_n p4) p3) (own_fb p4) (own_n p4).toNatClampNeg)), .second, .val (.int (own_kk p5 (own_n p4))), .unset, .unset, .unset] [(.int (1 : Int32))]))
    refine Gd.st (fun _ k => XS.iload X19.here hx rfl (hb hby at_131) rfl k) ?_
    show Gd p.tables e below _ (T19.setTop (mkF m 133 #[.val (.long q1), .second, .val (.long q2), .second, .val (.int p3), .val (.int p4), .val (.int p5), .val (.int (own_n p4)), .val (.int (own_fa p4)), .val (.int (own_fb p4)), .val (.ref b1), .val (.ref b3), .val (.ref b5), .val (.long (own_of (own_place ff1 (own_fa p4) (own_n p4) p3) (own_fa p4) (own_n p4).toNatClampNeg)), .second, .val (.long (own_of (own_place ff3 (own_fb p4) (own_n p4) p3) (own_fb p4) (own_n p4).toNatClampNeg)), .second, .val (.int (own_kk p5 (own_n p4))), .unset, .unset, .unset] [(.int p5), (.int (1 : Int32))]))
    refine Gd.st (fun _ k => XS.iconst X19.here hx rfl (hb hby at_133) k) ?_
    show Gd p.tables e below _ (T19.setTop (mkF m 134 #[.val (.long q1), .second, .val (.long q2), .second, .val (.int p3), .val (.int p4), .val (.int p5), .val (.int (own_n p4)), .val (.int (own_fa p4)), .val (.int (own_fb p4)), .val (.ref b1), .val (.ref b3), .val (.ref b5), .val (.long (own_of (own_place ff1 (own_fa p4) (own_n p4) p3) (own_fa p4) (own_n p4).toNatClampNeg)), .second, .val (.long (own_of (own_place ff3 (own_fb p4) (own_n p4) p3) (own_fb p4) (own_n p4).toNatClampNeg)), .second, .val (.int (own_kk p5 (own_n p4))), .unset, .unset, .unset] [(.int (2 : Int32)), (.int p5), (.int (1 : Int32))]))
    refine Gd.st (fun _ k => XS.iushr X19.here hx rfl (hb hby at_134) rfl k) ?_
    show Gd p.tables e below _ (T19.setTop (mkF m 135 #[.val (.long q1), .second, .val (.long q2), .second, .val (.int p3), .val (.int p4), .val (.int p5), .val (.int (own_n p4)), .val (.int (own_fa p4)), .val (.int (own_fb p4)), .val (.ref b1), .val (.ref b3), .val (.ref b5), .val (.long (own_of (own_place ff1 (own_fa p4) (own_n p4) p3) (own_fa p4) (own_n p4).toNatClampNeg)), .second, .val (.long (own_of (own_place ff3 (own_fb p4) (own_n p4) p3) (own_fb p4) (own_n p4).toNatClampNeg)), .second, .val (.int (own_kk p5 (own_n p4))), .unset, .unset, .unset] [(.int (own_sh p5 (2 : Int32))), (.int (1 : Int32))]))
    refine Gd.st (fun _ k => X19.ldcInt hx hown (mvT hZ (hw _ (List.mem_of_getElem? (i := 16) rfl))) (g := (mkF m 135 #[.val (.long q1), .second, .val (.long q2), .second, .val (.int p3), .val (.int p4), .val (.int p5), .val (.int (own_n p4)), .val (.int (own_fa p4)), .val (.int (own_fb p4)), .val (.ref b1), .val (.ref b3), .val (.ref b5), .val (.long (own_of (own_place ff1 (own_fa p4) (own_n p4) p3) (own_fa p4) (own_n p4).toNatClampNeg)), .second, .val (.long (own_of (own_place ff3 (own_fb p4) (own_n p4) p3) (own_fb p4) (own_n p4).toNatClampNeg)), .second, .val (.int (own_kk p5 (own_n p4))), .unset, .unset, .unset] [(.int (own_sh p5 (2 : Int32))), (.int (1 : Int32))])) rfl (hb hby at_135) _ k) ?_
    show Gd p.tables e below _ (T19.setTop (mkF m 137 #[.val (.long q1), .second, .val (.long q2), .second, .val (.int p3), .val (.int p4), .val (.int p5), .val (.int (own_n p4)), .val (.int (own_fa p4)), .val (.int (own_fb p4)), .val (.ref b1), .val (.ref b3), .val (.ref b5), .val (.long (own_of (own_place ff1 (own_fa p4) (own_n p4) p3) (own_fa p4) (own_n p4).toNatClampNeg)), .second, .val (.long (own_of (own_place ff3 (own_fb p4) (own_n p4) p3) (own_fb p4) (own_n p4).toNatClampNeg)), .second, .val (.int (own_kk p5 (own_n p4))), .unset, .unset, .unset] [(.int (65535 : Int32)), (.int (own_sh p5 (2 : Int32))), (.int (1 : Int32))]))
    refine Gd.st (fun _ k => XS.iand X19.here hx rfl (hb hby at_137) rfl k) ?_
    show Gd p.tables e below _ (T19.setTop (mkF m 138 #[.val (.long q1), .second, .val (.long q2), .second, .val (.int p3), .val (.int p4), .val (.int p5), .val (.int (own_n p4)), .val (.int (own_fa p4)), .val (.int (own_fb p4)), .val (.ref b1), .val (.ref b3), .val (.ref b5), .val (.long (own_of (own_place ff1 (own_fa p4) (own_n p4) p3) (own_fa p4) (own_n p4).toNatClampNeg)), .second, .val (.long (own_of (own_place ff3 (own_fb p4) (own_n p4) p3) (own_fb p4) (own_n p4).toNatClampNeg)), .second, .val (.int (own_kk p5 (own_n p4))), .unset, .unset, .unset] [(.int ((own_sh p5 (2 : Int32)) &&& (65535 : Int32))), (.int (1 : Int32))]))
    refine Gd.st (fun _ k => XS.sipush X19.here hx rfl (hb hby at_138) k) ?_
    show Gd p.tables e below _ (T19.setTop (mkF m 141 #[.val (.long q1), .second, .val (.long q2), .second, .val (.int p3), .val (.int p4), .val (.int p5), .val (.int (own_n p4)), .val (.int (own_fa p4)), .val (.int (own_fb p4)), .val (.ref b1), .val (.ref b3), .val (.ref b5), .val (.long (own_of (own_place ff1 (own_fa p4) (own_n p4) p3) (own_fa p4) (own_n p4).toNatClampNeg)), .second, .val (.long (own_of (own_place ff3 (own_fb p4) (own_n p4) p3) (own_fb p4) (own_n p4).toNatClampNeg)), .second, .val (.int (own_kk p5 (own_n p4))), .unset, .unset, .unset] [(.int (255 : Int32)), (.int ((own_sh p5 (2 : Int32)) &&& (65535 : Int32))), (.int (1 : Int32))]))
    refine Gd.st (fun _ k => XS.irem X19.here hx rfl (hb hby at_141) rfl (by decide) k) ?_
    show Gd p.tables e below _ (T19.setTop (mkF m 142 #[.val (.long q1), .second, .val (.long q2), .second, .val (.int p3), .val (.int p4), .val (.int p5), .val (.int (own_n p4)), .val (.int (own_fa p4)), .val (.int (own_fb p4)), .val (.ref b1), .val (.ref b3), .val (.ref b5), .val (.long (own_of (own_place ff1 (own_fa p4) (own_n p4) p3) (own_fa p4) (own_n p4).toNatClampNeg)), .second, .val (.long (own_of (own_place ff3 (own_fb p4) (own_n p4) p3) (own_fb p4) (own_n p4).toNatClampNeg)), .second, .val (.int (own_kk p5 (own_n p4))), .unset, .unset, .unset] [(.int (((own_sh p5 (2 : Int32)) &&& (65535 : Int32)) - (((own_sh p5 (2 : Int32)) &&& (65535 : Int32)) / (255 : Int32)) * (255 : Int32))), (.int (1 : Int32))]))
    refine Gd.st (fun _ k => XS.iadd X19.here hx rfl (hb hby at_142) rfl k) ?_
    show Gd p.tables e below _ (T19.setTop (mkF m 143 #[.val (.long q1), .second, .val (.long q2), .second, .val (.int p3), .val (.int p4), .val (.int p5), .val (.int (own_n p4)), .val (.int (own_fa p4)), .val (.int (own_fb p4)), .val (.ref b1), .val (.ref b3), .val (.ref b5), .val (.long (own_of (own_place ff1 (own_fa p4) (own_n p4) p3) (own_fa p4) (own_n p4).toNatClampNeg)), .second, .val (.long (own_of (own_place ff3 (own_fb p4) (own_n p4) p3) (own_fb p4) (own_n p4).toNatClampNeg)), .second, .val (.int (own_kk p5 (own_n p4))), .unset, .unset, .unset] [(.int (own_dl p5))]))
    refine Gd.st (fun _ k => XS.istore X19.here hx rfl (hb hby at_143) rfl (l' := #[.val (.long q1), .second, .val (.long q2), .second, .val (.int p3), .val (.int p4), .val (.int p5), .val (.int (own_n p4)), .val (.int (own_fa p4)), .val (.int (own_fb p4)), .val (.ref b1), .val (.ref b3), .val (.ref b5), .val (.long (own_of (own_place ff1 (own_fa p4) (own_n p4) p3) (own_fa p4) (own_n p4).toNatClampNeg)), .second, .val (.long (own_of (own_place ff3 (own_fb p4) (own_n p4) p3) (own_fb p4) (own_n p4).toNatClampNeg)), .second, .val (.int (own_kk p5 (own_n p4))), .val (.int (own_dl p5)), .unset, .unset]) rfl k) ?_
    show Gd p.tables e below _ (T19.setTop (mkF m 145 #[.val (.long q1), .second, .val (.long q2), .second, .val (.int p3), .val (.int p4), .val (.int p5), .val (.int (own_n p4)), .val (.int (own_fa p4)), .val (.int (own_fb p4)), .val (.ref b1), .val (.ref b3), .val (.ref b5), .val (.long (own_of (own_place ff1 (own_fa p4) (own_n p4) p3) (own_fa p4) (own_n p4).toNatClampNeg)), .second, .val (.long (own_of (own_place ff3 (own_fb p4) (own_n p4) p3) (own_fb p4) (own_n p4).toNatClampNeg)), .second, .val (.int (own_kk p5 (own_n p4))), .val (.int (own_dl p5)), .unset, .unset] []))
    refine Gd.st (fun _ k => XS.aload X19.here hx rfl (hb hby at_145) rfl rfl k) ?_
    show Gd p.tables e below _ (T19.setTop (mkF m 147 #[.val (.long q1), .second, .val (.long q2), .second, .val (.int p3), .val (.int p4), .val (.int p5), .val (.int (own_n p4)), .val (.int (own_fa p4)), .val (.int (own_fb p4)), .val (.ref b1), .val (.ref b3), .val (.ref b5), .val (.long (own_of (own_place ff1 (own_fa p4) (own_n p4) p3) (own_fa p4) (own_n p4).toNatClampNeg)), .second, .val (.long (own_of (own_place ff3 (own_fb p4) (own_n p4) p3) (own_fb p4) (own_n p4).toNatClampNeg)), .second, .val (.int (own_kk p5 (own_n p4))), .val (.int (own_dl p5)), .unset, .unset] [(.ref b5)]))
    refine Gd.st (fun _ k => XS.iload X19.here hx rfl (hb hby at_147) rfl k) ?_
    show Gd p.tables e below _ (T19.setTop (mkF m 149 #[.val (.long q1), .second, .val (.long q2), .second, .val (.int p3), .val (.int p4), .val (.int p5), .val (.int (own_n p4)), .val (.int (own_fa p4)), .val (.int (own_fb p4)), .val (.ref b1), .val (.ref b3), .val (.ref b5), .val (.long (own_of (own_place ff1 (own_fa p4) (own_n p4) p3) (own_fa p4) (own_n p4).toNatClampNeg)), .second, .val (.long (own_of (own_place ff3 (own_fb p4) (own_n p4) p3) (own_fb p4) (own_n p4).toNatClampNeg)), .second, .val (.int (own_kk p5 (own_n p4))), .val (.int (own_dl p5)), .unset, .unset] [(.int (own_fb p4)), (.ref b5)]))
    refine Gd.st (fun _ k => XS.iload X19.here hx rfl (hb hby at_149) rfl k) ?_
    show Gd p.tables e below _ (T19.setTop (mkF m 151 #[.val (.long q1), .second, .val (.long q2), .second, .val (.int p3), .val (.int p4), .val (.int p5), .val (.int (own_n p4)), .val (.int (own_fa p4)), .val (.int (own_fb p4)), .val (.ref b1), .val (.ref b3), .val (.ref b5), .val (.long (own_of (own_place ff1 (own_fa p4) (own_n p4) p3) (own_fa p4) (own_n p4).toNatClampNeg)), .second, .val (.long (own_of (own_place ff3 (own_fb p4) (own_n p4) p3) (own_fb p4) (own_n p4).toNatClampNeg)), .second, .val (.int (own_kk p5 (own_n p4))), .val (.int (own_dl p5)), .unset, .unset] [(.int (own_kk p5 (own_n p4))), (.int (own_fb p4)), (.ref b5)]))
    refine Gd.st (fun _ k => XS.iadd X19.here hx rfl (hb hby at_151) rfl k) ?_
    show Gd p.tables e below _ (T19.setTop (mkF m 152 #[.val (.long q1), .second, .val (.long q2), .second, .val (.int p3), .val (.int p4), .val (.int p5), .val (.int (own_n p4)), .val (.int (own_fa p4)), .val (.int (own_fb p4)), .val (.ref b1), .val (.ref b3), .val (.ref b5), .val (.long (own_of (own_place ff1 (own_fa p4) (own_n p4) p3) (own_fa p4) (own_n p4).toNatClampNeg)), .second, .val (.long (own_of (own_place ff3 (own_fb p4) (own_n p4) p3) (own_fb p4) (own_n p4).toNatClampNeg)), .second, .val (.int (own_kk p5 (own_n p4))), .val (.int (own_dl p5)), .unset, .unset] [(.int (own_fb p4 + (own_kk p5 (own_n p4)))), (.ref b5)]))
    refine Gd.st (fun _ k => XS.aload X19.here hx rfl (hb hby at_152) rfl rfl k) ?_
    show Gd p.tables e below _ (T19.setTop (mkF m 154 #[.val (.long q1), .second, .val (.long q2), .second, .val (.int p3), .val (.int p4), .val (.int p5), .val (.int (own_n p4)), .val (.int (own_fa p4)), .val (.int (own_fb p4)), .val (.ref b1), .val (.ref b3), .val (.ref b5), .val (.long (own_of (own_place ff1 (own_fa p4) (own_n p4) p3) (own_fa p4) (own_n p4).toNatClampNeg)), .second, .val (.long (own_of (own_place ff3 (own_fb p4) (own_n p4) p3) (own_fb p4) (own_n p4).toNatClampNeg)), .second, .val (.int (own_kk p5 (own_n p4))), .val (.int (own_dl p5)), .unset, .unset] [(.ref b5), (.int (own_fb p4 + (own_kk p5 (own_n p4)))), (.ref b5)]))
    refine Gd.st (fun _ k => XS.iload X19.here hx rfl (hb hby at_154) rfl k) ?_
    show Gd p.tables e below _ (T19.setTop (mkF m 156 #[.val (.long q1), .second, .val (.long q2), .second, .val (.int p3), .val (.int p4), .val (.int p5), .val (.int (own_n p4)), .val (.int (own_fa p4)), .val (.int (own_fb p4)), .val (.ref b1), .val (.ref b3), .val (.ref b5), .val (.long (own_of (own_place ff1 (own_fa p4) (own_n p4) p3) (own_fa p4) (own_n p4).toNatClampNeg)), .second, .val (.long (own_of (own_place ff3 (own_fb p4) (own_n p4) p3) (own_fb p4) (own_n p4).toNatClampNeg)), .second, .val (.int (own_kk p5 (own_n p4))), .val (.int (own_dl p5)), .unset, .unset] [(.int (own_fb p4)), (.ref b5), (.int (own_fb p4 + (own_kk p5 (own_n p4)))), (.ref b5)]))
    refine Gd.st (fun _ k => XS.iload X19.here hx rfl (hb hby at_156) rfl k) ?_
    show Gd p.tables e below _ (T19.setTop (mkF m 158 #[.val (.long q1), .second, .val (.long q2), .second, .val (.int p3), .val (.int p4), .val (.int p5), .val (.int (own_n p4)), .val (.int (own_fa p4)), .val (.int (own_fb p4)), .val (.ref b1), .val (.ref b3), .val (.ref b5), .val (.long (own_of (own_place ff1 (own_fa p4) (own_n p4) p3) (own_fa p4) (own_n p4).toNatClampNeg)), .second, .val (.long (own_of (own_place ff3 (own_fb p4) (own_n p4) p3) (own_fb p4) (own_n p4).toNatClampNeg)), .second, .val (.int (own_kk p5 (own_n p4))), .val (.int (own_dl p5)), .unset, .unset] [(.int (own_kk p5 (own_n p4))), (.int (own_fb p4)), (.ref b5), (.int (own_fb p4 + (own_kk p5 (own_n p4)))), (.ref b5)]))
    refine Gd.st (fun _ k => XS.iadd X19.here hx rfl (hb hby at_158) rfl k) ?_
    show Gd p.tables e below _ (T19.setTop (mkF m 159 #[.val (.long q1), .second, .val (.long q2), .second, .val (.int p3), .val (.int p4), .val (.int p5), .val (.int (own_n p4)), .val (.int (own_fa p4)), .val (.int (own_fb p4)), .val (.ref b1), .val (.ref b3), .val (.ref b5), .val (.long (own_of (own_place ff1 (own_fa p4) (own_n p4) p3) (own_fa p4) (own_n p4).toNatClampNeg)), .second, .val (.long (own_of (own_place ff3 (own_fb p4) (own_n p4) p3) (own_fb p4) (own_n p4).toNatClampNeg)), .second, .val (.int (own_kk p5 (own_n p4))), .val (.int (own_dl p5)), .unset, .unset] [(.int (own_fb p4 + (own_kk p5 (own_n p4)))), (.ref b5), (.int (own_fb p4 + (own_kk p5 (own_n p4)))), (.ref b5)]))
    obtain ⟨cl_21, Ar_21, q_21, S_21, N_21, H_21, G_21⟩ := id V14
    have hin_21 : ¬ ((own_fb p4 + (own_kk p5 (own_n p4))) < 0 ∨ cl_21.slots.size ≤ ((own_fb p4 + (own_kk p5 (own_n p4)))).toNatClampNeg) := inb_of S_21 (own_ibk _ _ (own_fbr p4) (by have := own_kr p5 (own_n p4) hc116 (own_nr p4); have := own_nr p4; omega))
    have hat_21 : cl_21.slots[((own_fb p4 + (own_kk p5 (own_n p4)))).toNatClampNeg]? = some (.int ((own_place ff5 (own_fb p4) (own_n p4) p3) ((own_fb p4 + (own_kk p5 (own_n p4)))).toNatClampNeg)) := H_21.at hin_21 (own_get _ _ (own_lt _ (own_ibk _ _ (own_fbr p4) (by have := own_kr p5 (own_n p4) hc116 (own_nr p4); have := own_nr p4; omega))))
    refine Gd.st (fun _ k => X19.baloadBytes hx (j := (own_fb p4 + (own_kk p5 (own_n p4)))) (v := (.int ((own_place ff5 (own_fb p4) (own_n p4) p3) ((own_fb p4 + (own_kk p5 (own_n p4)))).toNatClampNeg))) (by rw [e19]; exact Ar_21.1) (State.isArrayOf_alike hZ.alike Ar_21.2.1) Ar_21.2.2 hin_21 hat_21 (g := (mkF m 159 #[.val (.long q1), .second, .val (.long q2), .second, .val (.int p3), .val (.int p4), .val (.int p5), .val (.int (own_n p4)), .val (.int (own_fa p4)), .val (.int (own_fb p4)), .val (.ref b1), .val (.ref b3), .val (.ref b5), .val (.long (own_of (own_place ff1 (own_fa p4) (own_n p4) p3) (own_fa p4) (own_n p4).toNatClampNeg)), .second, .val (.long (own_of (own_place ff3 (own_fb p4) (own_n p4) p3) (own_fb p4) (own_n p4).toNatClampNeg)), .second, .val (.int (own_kk p5 (own_n p4))), .val (.int (own_dl p5)), .unset, .unset] [(.int (own_fb p4 + (own_kk p5 (own_n p4)))), (.ref b5), (.int (own_fb p4 + (own_kk p5 (own_n p4)))), (.ref b5)])) rfl rfl (hb hby at_159) _ k) ?_
    show Gd p.tables e below _ (T19.setTop (mkF m 160 #[.val (.long q1), .second, .val (.long q2), .second, .val (.int p3), .val (.int p4), .val (.int p5), .val (.int (own_n p4)), .val (.int (own_fa p4)), .val (.int (own_fb p4)), .val (.ref b1), .val (.ref b3), .val (.ref b5), .val (.long (own_of (own_place ff1 (own_fa p4) (own_n p4) p3) (own_fa p4) (own_n p4).toNatClampNeg)), .second, .val (.long (own_of (own_place ff3 (own_fb p4) (own_n p4) p3) (own_fb p4) (own_n p4).toNatClampNeg)), .second, .val (.int (own_kk p5 (own_n p4))), .val (.int (own_dl p5)), .unset, .unset] [(.int ((own_place ff5 (own_fb p4) (own_n p4) p3) ((own_fb p4 + (own_kk p5 (own_n p4)))).toNatClampNeg)), (.int (own_fb p4 + (own_kk p5 (own_n p4)))), (.ref b5)]))
    refine Gd.st (fun _ k => XS.iload X19.here hx rfl (hb hby at_160) rfl k) ?_
    show Gd p.tables e below _ (T19.setTop (mkF m 162 #[.val (.long q1), .second, .val (.long q2), .second, .val (.int p3), .val (.int p4), .val (.int p5), .val (.int (own_n p4)), .val (.int (own_fa p4)), .val (.int (own_fb p4)), .val (.ref b1), .val (.ref b3), .val (.ref b5), .val (.long (own_of (own_place ff1 (own_fa p4) (own_n p4) p3) (own_fa p4) (own_n p4).toNatClampNeg)), .second, .val (.long (own_of (own_place ff3 (own_fb p4) (own_n p4) p3) (own_fb p4) (own_n p4).toNatClampNeg)), .second, .val (.int (own_kk p5 (own_n p4))), .val (.int (own_dl p5)), .unset, .unset] [(.int (own_dl p5)), (.int ((own_place ff5 (own_fb p4) (own_n p4) p3) ((own_fb p4 + (own_kk p5 (own_n p4)))).toNatClampNeg)), (.int (own_fb p4 + (own_kk p5 (own_n p4)))), (.ref b5)]))
    refine Gd.st (fun _ k => XS.iadd X19.here hx rfl (hb hby at_162) rfl k) ?_
    show Gd p.tables e below _ (T19.setTop (mkF m 163 #[.val (.long q1), .second, .val (.long q2), .second, .val (.int p3), .val (.int p4), .val (.int p5), .val (.int (own_n p4)), .val (.int (own_fa p4)), .val (.int (own_fb p4)), .val (.ref b1), .val (.ref b3), .val (.ref b5), .val (.long (own_of (own_place ff1 (own_fa p4) (own_n p4) p3) (own_fa p4) (own_n p4).toNatClampNeg)), .second, .val (.long (own_of (own_place ff3 (own_fb p4) (own_n p4) p3) (own_fb p4) (own_n p4).toNatClampNeg)), .second, .val (.int (own_kk p5 (own_n p4))), .val (.int (own_dl p5)), .unset, .unset] [(.int (((own_place ff5 (own_fb p4) (own_n p4) p3) ((own_fb p4 + (own_kk p5 (own_n p4)))).toNatClampNeg) + (own_dl p5))), (.int (own_fb p4 + (own_kk p5 (own_n p4)))), (.ref b5)]))
    refine Gd.st (fun _ k => XS.i2b X19.here hx rfl (hb hby at_163) rfl k) ?_
    show Gd p.tables e below _ (T19.setTop (mkF m 164 #[.val (.long q1), .second, .val (.long q2), .second, .val (.int p3), .val (.int p4), .val (.int p5), .val (.int (own_n p4)), .val (.int (own_fa p4)), .val (.int (own_fb p4)), .val (.ref b1), .val (.ref b3), .val (.ref b5), .val (.long (own_of (own_place ff1 (own_fa p4) (own_n p4) p3) (own_fa p4) (own_n p4).toNatClampNeg)), .second, .val (.long (own_of (own_place ff3 (own_fb p4) (own_n p4) p3) (own_fb p4) (own_n p4).toNatClampNeg)), .second, .val (.int (own_kk p5 (own_n p4))), .val (.int (own_dl p5)), .unset, .unset] [(.int ((((own_place ff5 (own_fb p4) (own_n p4) p3) ((own_fb p4 + (own_kk p5 (own_n p4)))).toNatClampNeg) + (own_dl p5)).toInt8.toInt32)), (.int (own_fb p4 + (own_kk p5 (own_n p4)))), (.ref b5)]))
    obtain ⟨cl_22, Ar_22, q_22, S_22, N_22, H_22, G_22⟩ := id V14
    have hib_22 : ¬ (own_fb p4 + (own_kk p5 (own_n p4))) < 0 ∧ (own_fb p4 + (own_kk p5 (own_n p4))) < (8 : Int32) := own_ibk _ _ (own_fbr p4) (by have := own_kr p5 (own_n p4) hc116 (own_nr p4); have := own_nr p4; omega)
    obtain ⟨T22, h22, X22, e22, W22, st22⟩ := stB X19 hx hZ e19 Ar_22 (j := (own_fb p4 + (own_kk p5 (own_n p4)))) (inb_of S_22 hib_22) (g := (mkF m 164 #[.val (.long q1), .second, .val (.long q2), .second, .val (.int p3), .val (.int p4), .val (.int p5), .val (.int (own_n p4)), .val (.int (own_fa p4)), .val (.int (own_fb p4)), .val (.ref b1), .val (.ref b3), .val (.ref b5), .val (.long (own_of (own_place ff1 (own_fa p4) (own_n p4) p3) (own_fa p4) (own_n p4).toNatClampNeg)), .second, .val (.long (own_of (own_place ff3 (own_fb p4) (own_n p4) p3) (own_fb p4) (own_n p4).toNatClampNeg)), .second, .val (.int (own_kk p5 (own_n p4))), .val (.int (own_dl p5)), .unset, .unset] [(.int ((((own_place ff5 (own_fb p4) (own_n p4) p3) ((own_fb p4 + (own_kk p5 (own_n p4)))).toNatClampNeg) + (own_dl p5)).toInt8.toInt32)), (.int (own_fb p4 + (own_kk p5 (own_n p4)))), (.ref b5)])) rfl rfl (hb hby at_164)
    refine Gd.st st22 ?_
    have Va_22 : Arv Z h22 b5 kk5 .byte (8 : Int32) (own_vs (own_up (own_place ff5 (own_fb p4) (own_n p4) p3) (own_fb p4 + (own_kk p5 (own_n p4))).toNatClampNeg (own_by ((own_place ff5 (own_fb p4) (own_n p4) p3) (own_fb p4 + (own_kk p5 (own_n p4))).toNatClampNeg + (own_dl p5))))) (.int (0 : Int32)) := own_put Ar_22 q_22 S_22 N_22 H_22 G_22 W22 (own_lt _ hib_22)
    have N22 := Fr.snoc X22 N19 g_b5
    have Z23 : n0 ≤ h22.size := Nat.le_trans Z16 (Keep.of_wr W22).1
    show Gd p.tables e below _ (T22.setTop (mkF m 165 #[.val (.long q1), .second, .val (.long q2), .second, .val (.int p3), .val (.int p4), .val (.int p5), .val (.int (own_n p4)), .val (.int (own_fa p4)), .val (.int (own_fb p4)), .val (.ref b1), .val (.ref b3), .val (.ref b5), .val (.long (own_of (own_place ff1 (own_fa p4) (own_n p4) p3) (own_fa p4) (own_n p4).toNatClampNeg)), .second, .val (.long (own_of (own_place ff3 (own_fb p4) (own_n p4) p3) (own_fb p4) (own_n p4).toNatClampNeg)), .second, .val (.int (own_kk p5 (own_n p4))), .val (.int (own_dl p5)), .unset, .unset] []))
    refine Gd.st (fun _ k => XS.aload X22.here hx rfl (hb hby at_165) rfl rfl k) ?_
    show Gd p.tables e below _ (T22.setTop (mkF m 167 #[.val (.long q1), .second, .val (.long q2), .second, .val (.int p3), .val (.int p4), .val (.int p5), .val (.int (own_n p4)), .val (.int (own_fa p4)), .val (.int (own_fb p4)), .val (.ref b1), .val (.ref b3), .val (.ref b5), .val (.long (own_of (own_place ff1 (own_fa p4) (own_n p4) p3) (own_fa p4) (own_n p4).toNatClampNeg)), .second, .val (.long (own_of (own_place ff3 (own_fb p4) (own_n p4) p3) (own_fb p4) (own_n p4).toNatClampNeg)), .second, .val (.int (own_kk p5 (own_n p4))), .val (.int (own_dl p5)), .unset, .unset] [(.ref b5)]))
    refine Gd.st (fun _ k => XS.iload X22.here hx rfl (hb hby at_167) rfl k) ?_
    show Gd p.tables e below _ (T22.setTop (mkF m 169 #[.val (.long q1), .second, .val (.long q2), .second, .val (.int p3), .val (.int p4), .val (.int p5), .val (.int (own_n p4)), .val (.int (own_fa p4)), .val (.int (own_fb p4)), .val (.ref b1), .val (.ref b3), .val (.ref b5), .val (.long (own_of (own_place ff1 (own_fa p4) (own_n p4) p3) (own_fa p4) (own_n p4).toNatClampNeg)), .second, .val (.long (own_of (own_place ff3 (own_fb p4) (own_n p4) p3) (own_fb p4) (own_n p4).toNatClampNeg)), .second, .val (.int (own_kk p5 (own_n p4))), .val (.int (own_dl p5)), .unset, .unset] [(.int (own_fb p4)), (.ref b5)]))
    refine Gd.st (fun _ k => XS.iload X22.here hx rfl (hb hby at_169) rfl k) ?_
    show Gd p.tables e below _ (T22.setTop (mkF m 171 #[.val (.long q1), .second, .val (.long q2), .second, .val (.int p3), .val (.int p4), .val (.int p5), .val (.int (own_n p4)), .val (.int (own_fa p4)), .val (.int (own_fb p4)), .val (.ref b1), .val (.ref b3), .val (.ref b5), .val (.long (own_of (own_place ff1 (own_fa p4) (own_n p4) p3) (own_fa p4) (own_n p4).toNatClampNeg)), .second, .val (.long (own_of (own_place ff3 (own_fb p4) (own_n p4) p3) (own_fb p4) (own_n p4).toNatClampNeg)), .second, .val (.int (own_kk p5 (own_n p4))), .val (.int (own_dl p5)), .unset, .unset] [(.int (own_fb p4)), (.int (own_fb p4)), (.ref b5)]))
    refine Gd.st (fun _ k => XS.iload X22.here hx rfl (hb hby at_171) rfl k) ?_
    show Gd p.tables e below _ (T22.setTop (mkF m 173 #[.val (.long q1), .second, .val (.long q2), .second, .val (.int p3), .val (.int p4), .val (.int p5), .val (.int (own_n p4)), .val (.int (own_fa p4)), .val (.int (own_fb p4)), .val (.ref b1), .val (.ref b3), .val (.ref b5), .val (.long (own_of (own_place ff1 (own_fa p4) (own_n p4) p3) (own_fa p4) (own_n p4).toNatClampNeg)), .second, .val (.long (own_of (own_place ff3 (own_fb p4) (own_n p4) p3) (own_fb p4) (own_n p4).toNatClampNeg)), .second, .val (.int (own_kk p5 (own_n p4))), .val (.int (own_dl p5)), .unset, .unset] [(.int (own_n p4)), (.int (own_fb p4)), (.int (own_fb p4)), (.ref b5)]))
    refine Gd.st (fun _ k => XS.iadd X22.here hx rfl (hb hby at_173) rfl k) ?_
    show Gd p.tables e below _ (T22.setTop (mkF m 174 #[.val (.long q1), .second, .val (.long q2), .second, .val (.int p3), .val (.int p4), .val (.int p5), .val (.int (own_n p4)), .val (.int (own_fa p4)), .val (.int (own_fb p4)), .val (.ref b1), .val (.ref b3), .val (.ref b5), .val (.long (own_of (own_place ff1 (own_fa p4) (own_n p4) p3) (own_fa p4) (own_n p4).toNatClampNeg)), .second, .val (.long (own_of (own_place ff3 (own_fb p4) (own_n p4) p3) (own_fb p4) (own_n p4).toNatClampNeg)), .second, .val (.int (own_kk p5 (own_n p4))), .val (.int (own_dl p5)), .unset, .unset] [(.int ((own_fb p4) + (own_n p4))), (.int (own_fb p4)), (.ref b5)]))
    obtain ⟨_, _, ⟨T24, L24, k24, n24⟩, -, X24, ⟨Lc24, hQ24, l24, y24, z24⟩, st24⟩ := Jvm.LawKit.callS X22 hx (y := (⟨"com/example/kosha/kosha/ByteHash", "of", "([BII)J"⟩ : MethodName)) hown (mvT hZ (hw _ (List.mem_of_getElem? (i := 8) rfl))) (mvT hZ (hw _ (List.mem_of_getElem? (i := 9) rfl))) (mvT hZ (hw _ (List.mem_of_getElem? (i := 10) rfl))) (mvT hZ (hw _ (List.mem_of_getElem? (i := 11) rfl))) (by decide) (backOf (W := 0) (rm3 l Z a0 hw [] b5 (own_fb p4) ((own_fb p4) + (own_n p4)) kk5 (own_up (own_place ff5 (own_fb p4) (own_n p4) p3) (own_fb p4 + (own_kk p5 (own_n p4))).toNatClampNeg (own_by ((own_place ff5 (own_fb p4) (own_n p4) p3) (own_fb p4 + (own_kk p5 (own_n p4))).toNatClampNeg + (own_dl p5)))) (own_n p4).toNatClampNeg h22 n0 Z23 Va_22 (own_ofp _ _ (own_fbr p4) (own_nr p4))) hZ (hw _ (List.mem_of_getElem? (i := 11) rfl)) (hw _ (List.mem_of_getElem? (i := 10) rfl)) (by decide) (by decide)) (g := (mkF m 174 #[.val (.long q1), .second, .val (.long q2), .second, .val (.int p3), .val (.int p4), .val (.int p5), .val (.int (own_n p4)), .val (.int (own_fa p4)), .val (.int (own_fb p4)), .val (.ref b1), .val (.ref b3), .val (.ref b5), .val (.long (own_of (own_place ff1 (own_fa p4) (own_n p4) p3) (own_fa p4) (own_n p4).toNatClampNeg)), .second, .val (.long (own_of (own_place ff3 (own_fb p4) (own_n p4) p3) (own_fb p4) (own_n p4).toNatClampNeg)), .second, .val (.int (own_kk p5 (own_n p4))), .val (.int (own_dl p5)), .unset, .unset] [(.int ((own_fb p4) + (own_n p4))), (.int (own_fb p4)), (.ref b5)])) rfl (by rw [hml]; rfl) (argsL := [(.ref b5), (.int (own_fb p4)), (.int ((own_fb p4) + (own_n p4)))]) (rest := []) (lenOf pd__ABII_J_7 rfl) rfl (by show 2 * 0 + _ ≤ _; exact Nat.le_of_eq rfl) (hb hby at_174) (fun _ _ => ⟨rfl, e22, (by decide : 3 + 0 ≤ _), (by decide : 24 + 0 ≤ _)⟩)
    dsimp only [Pt.U, Pt.locs, Pt.cells, Pt.slots] at X24 l24 y24 z24 st24 hQ24
    simp only [Nat.add_zero, Nat.zero_add, Nat.reduceAdd] at y24 z24
    subst y24 z24
    obtain ⟨rfl, N24q, eh24⟩ := hQ24
    have N24 : Fr n0 L24 := by rw [l24]; exact Fr.app N22 N24q
    clear l24
    refine Gd.st st24 ?_
    have e24 : T24.heap = h22 := eh24
    show Gd p.tables e below _ (T24.setTop (mkF m 177 #[.val (.long q1), .second, .val (.long q2), .second, .val (.int p3), .val (.int p4), .val (.int p5), .val (.int (own_n p4)), .val (.int (own_fa p4)), .val (.int (own_fb p4)), .val (.ref b1), .val (.ref b3), .val (.ref b5), .val (.long (own_of (own_place ff1 (own_fa p4) (own_n p4) p3) (own_fa p4) (own_n p4).toNatClampNeg)), .second, .val (.long (own_of (own_place ff3 (own_fb p4) (own_n p4) p3) (own_fb p4) (own_n p4).toNatClampNeg)), .second, .val (.int (own_kk p5 (own_n p4))), .val (.int (own_dl p5)), .unset, .unset] [(.long (own_of (own_up (own_place ff5 (own_fb p4) (own_n p4) p3) (own_fb p4 + (own_kk p5 (own_n p4))).toNatClampNeg (own_by ((own_place ff5 (own_fb p4) (own_n p4) p3) (own_fb p4 + (own_kk p5 (own_n p4))).toNatClampNeg + (own_dl p5)))) (own_fb p4) (own_n p4).toNatClampNeg))]))
    refine Gd.st (fun _ k => XS.lstore X24.here hx rfl (hb hby at_177) rfl (l' := #[.val (.long q1), .second, .val (.long q2), .second, .val (.int p3), .val (.int p4), .val (.int p5), .val (.int (own_n p4)), .val (.int (own_fa p4)), .val (.int (own_fb p4)), .val (.ref b1), .val (.ref b3), .val (.ref b5), .val (.long (own_of (own_place ff1 (own_fa p4) (own_n p4) p3) (own_fa p4) (own_n p4).toNatClampNeg)), .second, .val (.long (own_of (own_place ff3 (own_fb p4) (own_n p4) p3) (own_fb p4) (own_n p4).toNatClampNeg)), .second, .val (.int (own_kk p5 (own_n p4))), .val (.int (own_dl p5)), .val (.long (own_of (own_up (own_place ff5 (own_fb p4) (own_n p4) p3) (own_fb p4 + (own_kk p5 (own_n p4))).toNatClampNeg (own_by ((own_place ff5 (own_fb p4) (own_n p4) p3) (own_fb p4 + (own_kk p5 (own_n p4))).toNatClampNeg + (own_dl p5)))) (own_fb p4) (own_n p4).toNatClampNeg)), .second]) rfl k) ?_
    show Gd p.tables e below _ (T24.setTop (mkF m 179 #[.val (.long q1), .second, .val (.long q2), .second, .val (.int p3), .val (.int p4), .val (.int p5), .val (.int (own_n p4)), .val (.int (own_fa p4)), .val (.int (own_fb p4)), .val (.ref b1), .val (.ref b3), .val (.ref b5), .val (.long (own_of (own_place ff1 (own_fa p4) (own_n p4) p3) (own_fa p4) (own_n p4).toNatClampNeg)), .second, .val (.long (own_of (own_place ff3 (own_fb p4) (own_n p4) p3) (own_fb p4) (own_n p4).toNatClampNeg)), .second, .val (.int (own_kk p5 (own_n p4))), .val (.int (own_dl p5)), .val (.long (own_of (own_up (own_place ff5 (own_fb p4) (own_n p4) p3) (own_fb p4 + (own_kk p5 (own_n p4))).toNatClampNeg (own_by ((own_place ff5 (own_fb p4) (own_n p4) p3) (own_fb p4 + (own_kk p5 (own_n p4))).toNatClampNeg + (own_dl p5)))) (own_fb p4) (own_n p4).toNatClampNeg)), .second] []))
    refine Gd.st (fun _ k => XS.lload X24.here hx rfl (hb hby at_179) rfl k) ?_
    show Gd p.tables e below _ (T24.setTop (mkF m 181 #[.val (.long q1), .second, .val (.long q2), .second, .val (.int p3), .val (.int p4), .val (.int p5), .val (.int (own_n p4)), .val (.int (own_fa p4)), .val (.int (own_fb p4)), .val (.ref b1), .val (.ref b3), .val (.ref b5), .val (.long (own_of (own_place ff1 (own_fa p4) (own_n p4) p3) (own_fa p4) (own_n p4).toNatClampNeg)), .second, .val (.long (own_of (own_place ff3 (own_fb p4) (own_n p4) p3) (own_fb p4) (own_n p4).toNatClampNeg)), .second, .val (.int (own_kk p5 (own_n p4))), .val (.int (own_dl p5)), .val (.long (own_of (own_up (own_place ff5 (own_fb p4) (own_n p4) p3) (own_fb p4 + (own_kk p5 (own_n p4))).toNatClampNeg (own_by ((own_place ff5 (own_fb p4) (own_n p4) p3) (own_fb p4 + (own_kk p5 (own_n p4))).toNatClampNeg + (own_dl p5)))) (own_fb p4) (own_n p4).toNatClampNeg)), .second] [(.long (own_of (own_up (own_place ff5 (own_fb p4) (own_n p4) p3) (own_fb p4 + (own_kk p5 (own_n p4))).toNatClampNeg (own_by ((own_place ff5 (own_fb p4) (own_n p4) p3) (own_fb p4 + (own_kk p5 (own_n p4))).toNatClampNeg + (own_dl p5)))) (own_fb p4) (own_n p4).toNatClampNeg))]))
    refine Gd.st (fun _ k => XS.lload X24.here hx rfl (hb hby at_181) rfl k) ?_
    show Gd p.tables e below _ (T24.setTop (mkF m 183 #[.val (.long q1), .second, .val (.long q2), .second, .val (.int p3), .val (.int p4), .val (.int p5), .val (.int (own_n p4)), .val (.int (own_fa p4)), .val (.int (own_fb p4)), .val (.ref b1), .val (.ref b3), .val (.ref b5), .val (.long (own_of (own_place ff1 (own_fa p4) (own_n p4) p3) (own_fa p4) (own_n p4).toNatClampNeg)), .second, .val (.long (own_of (own_place ff3 (own_fb p4) (own_n p4) p3) (own_fb p4) (own_n p4).toNatClampNeg)), .second, .val (.int (own_kk p5 (own_n p4))), .val (.int (own_dl p5)), .val (.long (own_of (own_up (own_place ff5 (own_fb p4) (own_n p4) p3) (own_fb p4 + (own_kk p5 (own_n p4))).toNatClampNeg (own_by ((own_place ff5 (own_fb p4) (own_n p4) p3) (own_fb p4 + (own_kk p5 (own_n p4))).toNatClampNeg + (own_dl p5)))) (own_fb p4) (own_n p4).toNatClampNeg)), .second] [(.long (own_of (own_place ff3 (own_fb p4) (own_n p4) p3) (own_fb p4) (own_n p4).toNatClampNeg)), (.long (own_of (own_up (own_place ff5 (own_fb p4) (own_n p4) p3) (own_fb p4 + (own_kk p5 (own_n p4))).toNatClampNeg (own_by ((own_place ff5 (own_fb p4) (own_n p4) p3) (own_fb p4 + (own_kk p5 (own_n p4))).toNatClampNeg + (own_dl p5)))) (own_fb p4) (own_n p4).toNatClampNeg))]))
    refine Gd.st (fun _ k => XS.lcmp X24.here hx rfl (hb hby at_183) rfl k) ?_
    show Gd p.tables e below _ (T24.setTop (mkF m 184 #[.val (.long q1), .second, .val (.long q2), .second, .val (.int p3), .val (.int p4), .val (.int p5), .val (.int (own_n p4)), .val (.int (own_fa p4)), .val (.int (own_fb p4)), .val (.ref b1), .val (.ref b3), .val (.ref b5), .val (.long (own_of (own_place ff1 (own_fa p4) (own_n p4) p3) (own_fa p4) (own_n p4).toNatClampNeg)), .second, .val (.long (own_of (own_place ff3 (own_fb p4) (own_n p4) p3) (own_fb p4) (own_n p4).toNatClampNeg)), .second, .val (.int (own_kk p5 (own_n p4))), .val (.int (own_dl p5)), .val (.long (own_of (own_up (own_place ff5 (own_fb p4) (own_n p4) p3) (own_fb p4 + (own_kk p5 (own_n p4))).toNatClampNeg (own_by ((own_place ff5 (own_fb p4) (own_n p4) p3) (own_fb p4 + (own_kk p5 (own_n p4))).toNatClampNeg + (own_dl p5)))) (own_fb p4) (own_n p4).toNatClampNeg)), .second] [(.int (lcmpW (own_of (own_up (own_place ff5 (own_fb p4) (own_n p4) p3) (own_fb p4 + (own_kk p5 (own_n p4))).toNatClampNeg (own_by ((own_place ff5 (own_fb p4) (own_n p4) p3) (own_fb p4 + (own_kk p5 (own_n p4))).toNatClampNeg + (own_dl p5)))) (own_fb p4) (own_n p4).toNatClampNeg) (own_of (own_place ff3 (own_fb p4) (own_n p4) p3) (own_fb p4) (own_n p4).toNatClampNeg)))]))
    refine Gd.st (fun _ k => XS.ifNo X24.here hx rfl (hb hby at_184) rfl ((if0 _ _).trans (feq (fun q => (own_diff _ _ p4 p3 p5 hc116) ((lw_eq (own_of (own_up (own_place ff5 (own_fb p4) (own_n p4) p3) (own_fb p4 + (own_kk p5 (own_n p4))).toNatClampNeg (own_by ((own_place ff5 (own_fb p4) (own_n p4) p3) (own_fb p4 + (own_kk p5 (own_n p4))).toNatClampNeg + (own_dl p5)))) (own_fb p4) (own_n p4).toNatClampNeg) (own_of (own_place ff3 (own_fb p4) (own_n p4) p3) (own_fb p4) (own_n p4).toNatClampNeg)).mp q))).1) k) ?_
    show Gd p.tables e below _ (T24.setTop (mkF m 187 #[.val (.long q1), .second, .val (.long q2), .second, .val (.int p3), .val (.int p4), .val (.int p5), .val (.int (own_n p4)), .val (.int (own_fa p4)), .val (.int (own_fb p4)), .val (.ref b1), .val (.ref b3), .val (.ref b5), .val (.long (own_of (own_place ff1 (own_fa p4) (own_n p4) p3) (own_fa p4) (own_n p4).toNatClampNeg)), .second, .val (.long (own_of (own_place ff3 (own_fb p4) (own_n p4) p3) (own_fb p4) (own_n p4).toNatClampNeg)), .second, .val (.int (own_kk p5 (own_n p4))), .val (.int (own_dl p5)), .val (.long (own_of (own_up (own_place ff5 (own_fb p4) (own_n p4) p3) (own_fb p4 + (own_kk p5 (own_n p4))).toNatClampNeg (own_by ((own_place ff5 (own_fb p4) (own_n p4) p3) (own_fb p4 + (own_kk p5 (own_n p4))).toNatClampNeg + (own_dl p5)))) (own_fb p4) (own_n p4).toNatClampNeg)), .second] []))
    refine Gd.st (fun _ k => XS.iconst X24.here hx rfl (hb hby at_187) k) ?_
    show Gd p.tables e below _ (T24.setTop (mkF m 188 #[.val (.long q1), .second, .val (.long q2), .second, .val (.int p3), .val (.int p4), .val (.int p5), .val (.int (own_n p4)), .val (.int (own_fa p4)), .val (.int (own_fb p4)), .val (.ref b1), .val (.ref b3), .val (.ref b5), .val (.long (own_of (own_place ff1 (own_fa p4) (own_n p4) p3) (own_fa p4) (own_n p4).toNatClampNeg)), .second, .val (.long (own_of (own_place ff3 (own_fb p4) (own_n p4) p3) (own_fb p4) (own_n p4).toNatClampNeg)), .second, .val (.int (own_kk p5 (own_n p4))), .val (.int (own_dl p5)), .val (.long (own_of (own_up (own_place ff5 (own_fb p4) (own_n p4) p3) (own_fb p4 + (own_kk p5 (own_n p4))).toNatClampNeg (own_by ((own_place ff5 (own_fb p4) (own_n p4) p3) (own_fb p4 + (own_kk p5 (own_n p4))).toNatClampNeg + (own_dl p5)))) (own_fb p4) (own_n p4).toNatClampNeg)), .second] [(.int (1 : Int32))]))
    refine Gd.st (fun _ k => XS.goto X24.here hx rfl (pc0 := 188) (pc' := 192) rfl (hb hby at_188) (by decide) (by decide) k) ?_
    show Gd p.tables e below _ (T24.setTop (mkF m 192 #[.val (.long q1), .second, .val (.long q2), .second, .val (.int p3), .val (.int p4), .val (.int p5), .val (.int (own_n p4)), .val (.int (own_fa p4)), .val (.int (own_fb p4)), .val (.ref b1), .val (.ref b3), .val (.ref b5), .val (.long (own_of (own_place ff1 (own_fa p4) (own_n p4) p3) (own_fa p4) (own_n p4).toNatClampNeg)), .second, .val (.long (own_of (own_place ff3 (own_fb p4) (own_n p4) p3) (own_fb p4) (own_n p4).toNatClampNeg)), .second, .val (.int (own_kk p5 (own_n p4))), .val (.int (own_dl p5)), .val (.long (own_of (own_up (own_place ff5 (own_fb p4) (own_n p4) p3) (own_fb p4 + (own_kk p5 (own_n p4))).toNatClampNeg (own_by ((own_place ff5 (own_fb p4) (own_n p4) p3) (own_fb p4 + (own_kk p5 (own_n p4))).toNatClampNeg + (own_dl p5)))) (own_fb p4) (own_n p4).toNatClampNeg)), .second] [(.int (1 : Int32))]))
    obtain ⟨fs, hr, hrun, hended, hW, hsame⟩ := X24.leave (v := some (.int (1 : Int32))) (fun h => by rw [Bd.returns] at h; cases h) Bd.notSynchronized
    refine Gd.mk (o := .returned (some (.int (1 : Int32)))) (retN X24 hx (t := .boolean) Bd.returns (by simp) (hb hby at_192) hr) ⟨hrun, hended, _, _, rfl, ?_, ⟨_, rfl⟩, hW, hsame.mono (by decide) (by decide)⟩
    show Q0 Z q1 q2 p3 p4 p5 h0 n0 _ T24.heap _
    rw [e24]
    exact ⟨rfl, N24⟩
set_option maxRecDepth 65536 in
set_option maxHeartbeats 40000000 in
theorem comes_1 {Post : Tables → Env → Array Value → State → Outcome → State → Prop} (hpost : ∀ tb e args s v u, (limb_1_1.after args s (.returned v) u = true ∧ limb_1_2.after args s (.returned v) u = true ∧ True) → FrameEnd s (.returned v) u (Jvm.fieldLocs frame_1_writes args s ++ Jvm.arrayLocs frame_1_arrays args s ++ Jvm.staticLocs frame_1_statics s) 16 128 → Post tb e args s (.returned v) u) :
    ArmFor flags0 classFile x code maxLocals ret World_1 tables_1 room_1 Calls_1 rest_1 Pre_1 Post := by
  intro l hfl _ _ p e ha hc hk s m args below hf hA hF happ hP
  obtain ⟨hcalls, hrest, hpre⟩ := hP
  obtain ⟨-, -, -, hnamed, -, -, -, hat⟩ := (Spec.applies_iff hf).mp happ
  obtain ⟨hg, hn⟩ := and_e (Cond.before_iff.mp (show (Jvm.Cond.and given_1 narrow_1).before args s = true from hpre))
  obtain ⟨g1, g2⟩ := and_e hg
  obtain ⟨g3, g4⟩ := and_e g2
  obtain ⟨g5, g6⟩ := and_e g4
  obtain ⟨g7, g8⟩ := and_e g6
  obtain ⟨g9, g10⟩ := and_e g8
  obtain ⟨w0, w1, w2, w3, w4, rfl⟩ : ∃ w0 w1 w2 w3 w4 : Value, args = #[w0, w1, w2, w3, w4] := by
    have hs : args.size = 5 := by simpa [Cond.value, given_1] using g1
    obtain ⟨L⟩ := args
    match L, hs with
    | [w0, w1, w2, w3, w4], _ => exact ⟨w0, w1, w2, w3, w4, rfl⟩
  have hw := fun d (hd : d ∈ tables_1) => atoms_spec (ws := Jvm.Cond.code x code maxLocals ret :: tables_1) hat d (List.mem_cons_of_mem _ hd)
  obtain ⟨i0, ei0⟩ := isL_v g3
  obtain rfl : w0 = (.long i0) := Option.some.inj ei0
  obtain ⟨i1, ei1⟩ := isL_v g5
  obtain rfl : w1 = (.long i1) := Option.some.inj ei1
  obtain ⟨i2, ei2⟩ := is_v g7
  obtain rfl : w2 = (.int i2) := Option.some.inj ei2
  obtain ⟨i3, ei3⟩ := is_v g9
  obtain rfl : w3 = (.int i3) := Option.some.inj ei3
  obtain ⟨i4, ei4⟩ := is_v g10
  obtain rfl : w4 = (.int i4) := Option.some.inj ei4
  obtain ⟨n, o, h1, h2, h3, _, L, rfl, ⟨rfl, N⟩, hq⟩ := rm0 l s _ hw tables_1 i0 i1 i2 i3 i4 s.heap s.heap.size (Nat.le_refl _) p e ha hc hk s m _ below hf ((Spec.applies_iff_loose hf).mp happ).1 ⟨rfl, State.Warmed39.refl s, rfl⟩ trivial
  refine ⟨n, _, h1, h2, h3, hpost _ _ _ _ _ _ ⟨Cond.after_iff.mpr rfl, Cond.after_iff.mpr (eq_i res_at (Term.int_eval (1)) rfl), trivial⟩ ⟨hq.1, hq.2.1, (hq.2.2.sift fun y hy => Or.inr (N y hy)).mono (by decide) (by decide)⟩⟩
theorem main_1_1 : Claimed_1_1 := comes_1 fun _ _ _ _ _ _ h hF => ⟨h.1, hF⟩
theorem main_1_2 : Claimed_1_2 := comes_1 fun _ _ _ _ _ _ h hF => ⟨h.2.1, hF⟩
end Jvm.Pilot.@@N@@
namespace Jvm.Pilot.@@N@@
open Jvm Jvm.ClassFile Sem Op Lib Jvm.Free Jvm.Stand Jvm.Pilot.@@N@@.Jvm.D
/-! MADE BY PROGRAM (witnessworld.py) out of the Statement's table words and the real class files: 9 classes; the members and pool entries that the words name. The judged class is class 1, her method 1. -/
namespace start1
open Jvm.ClassFile
def u (s : String) : CpInfo := .utf8 (stringToUtf16 s)
/-- a pool by its gaps: so many unusable entries, then the entry; so many at the end -/
def gap : Nat → List CpInfo → List CpInfo
  | 0, r => r
  | n + 1, r => .unusable :: gap n r
def poolList (es : List (Nat × CpInfo)) (last : Nat) : List CpInfo := es.foldr (fun e r => gap e.1 (e.2 :: r)) (gap last [])
def pool (es : List (Nat × CpInfo)) (last : Nat) : Array CpInfo := ⟨poolList es last⟩
def fileOf (pool : Array CpInfo) (this : Nat) (attrs : Array Attribute := #[]) (ms : Array MethodInfo := #[]) (fl : Nat := 33) (sup : Nat := 0) (ifs : Array Nat := #[]) (fds : Array FieldInfo := #[]) : ClassFile where
  minorVersion := 0
  majorVersion := 65
  constantPool := pool
  accessFlags := fl
  thisClass := this
  superClass := sup
  interfaces := ifs
  fields := fds
  methods := ms
  attributes := attrs
def plain (name : String) (sup : Option ClassId) : Class where
  name := name
  kind := .ordinary
  loader := none
  accessFlags := 33
  super := sup
  interfaces := #[]
  cf := none
  fields := #[]
  methods := #[]
  instanceTypes := #[]
  staticTypes := #[]
  resolved := #[]
  callSites := []
  init := .initialized
  statics := none
  mirror := none

def pool0 : Array CpInfo := pool [(5, u "<init>"), (0, u "()V"), (1, .class_ 10), (1, u "java/lang/Object")] 113

def k0m0 : Method := { name := "<init>", desc := "()V", sig := { parameters := [], returnType := none }, accessFlags := 1, code := none }
/-- java/lang/Object -/
def k0 : Class := { plain "java/lang/Object" none with
  accessFlags := 33
  interfaces := #[]
  cf := some (fileOf pool0 8 #[] #[{ accessFlags := 1, nameIndex := 5, descriptorIndex := 6, attributes := #[] }] 33 0 #[] #[])
  fields := #[]
  methods := #[k0m0]
  instanceTypes := #[]
  staticTypes := #[]
  resolved := Array.replicate 124 none
  statics := none }

def pool1 : Array CpInfo := pool [(2, .class_ 4), (1, u "java/lang/Object"), (0, u "<init>"), (0, u "()V"), (0, .methodref 8 9), (0, .class_ 10), (0, .nameAndType 11 12), (0, u "com/example/kosha/kosha/ByteHashOfPinLaw"), (0, u "fill"), (0, u "(J)[B"), (0, .methodref 8 14), (0, .nameAndType 15 16), (0, u "place"), (0, u "([BIII)V"), (0, .methodref 18 19), (0, .class_ 20), (0, .nameAndType 21 22), (0, u "com/example/kosha/kosha/ByteHash"), (0, u "of"), (0, u "([BII)J"), (0, .integer 65535), (2, u "law"), (0, u "(JJIII)Z")] 5

def k1m0 : Method := { name := "<init>", desc := "()V", sig := { parameters := [], returnType := none }, accessFlags := 2, code := none }
def k1c1 : Code := { maxStack := 5, maxLocals := 21, code := code, exceptionTable := #[], attributes := #[] }
def k1m1 : Method := { name := "law", desc := "(JJIII)Z", sig := { parameters := [.long, .long, .int, .int, .int], returnType := some .boolean }, accessFlags := 9, code := some k1c1 }
def k1c2 : Code := { maxStack := 5, maxLocals := 3, code := method_3_code, exceptionTable := #[], attributes := #[] }
def k1m2 : Method := { name := "fill", desc := "(J)[B", sig := { parameters := [.long], returnType := some (.array .byte) }, accessFlags := 10, code := some k1c2 }
def k1c3 : Code := { maxStack := 4, maxLocals := 4, code := method_4_code, exceptionTable := #[], attributes := #[] }
def k1m3 : Method := { name := "place", desc := "([BIII)V", sig := { parameters := [(.array .byte), .int, .int, .int], returnType := none }, accessFlags := 10, code := some k1c3 }
/-- com/example/kosha/kosha/ByteHashOfPinLaw -/
def k1 : Class := { plain "com/example/kosha/kosha/ByteHashOfPinLaw" (some 0) with
  accessFlags := 49
  interfaces := #[]
  cf := some (fileOf pool1 8 #[] #[{ accessFlags := 2, nameIndex := 5, descriptorIndex := 6, attributes := #[] }, { accessFlags := 9, nameIndex := 26, descriptorIndex := 27, attributes := #[] }, { accessFlags := 10, nameIndex := 11, descriptorIndex := 12, attributes := #[] }, { accessFlags := 10, nameIndex := 15, descriptorIndex := 16, attributes := #[] }] 49 2 #[] #[])
  fields := #[]
  methods := #[k1m0, k1m1, k1m2, k1m3]
  instanceTypes := #[]
  staticTypes := #[]
  resolved := Array.replicate 33 none
  statics := none }

def pool2 : Array CpInfo := pool [(2, .class_ 4), (1, u "java/lang/Object"), (0, u "<init>"), (0, u "()V"), (0, .long 14695981039346656037), (1, .long 1099511628211), (1, .long 18397679294719823053), (1, .long 14181476777654086739), (1, .class_ 16), (0, u "com/example/kosha/kosha/ByteHash"), (2, u "of"), (0, u "([BII)J")] 3

def k2m0 : Method := { name := "<init>", desc := "()V", sig := { parameters := [], returnType := none }, accessFlags := 2, code := none }
def k2c1 : Code := { maxStack := 5, maxLocals := 6, code := prog_16_method_2_code, exceptionTable := #[], attributes := #[] }
def k2m1 : Method := { name := "of", desc := "([BII)J", sig := { parameters := [(.array .byte), .int, .int], returnType := some .long }, accessFlags := 8, code := some k2c1 }
/-- com/example/kosha/kosha/ByteHash -/
def k2 : Class := { plain "com/example/kosha/kosha/ByteHash" (some 0) with
  accessFlags := 48
  interfaces := #[]
  cf := some (fileOf pool2 15 #[] #[{ accessFlags := 2, nameIndex := 5, descriptorIndex := 6, attributes := #[] }, { accessFlags := 8, nameIndex := 19, descriptorIndex := 20, attributes := #[] }] 48 2 #[] #[])
  fields := #[]
  methods := #[k2m0, k2m1]
  instanceTypes := #[]
  staticTypes := #[]
  resolved := Array.replicate 24 none
  statics := none }

def pool3 : Array CpInfo := pool [(1, u "java/lang/Cloneable"), (0, .class_ 1), (0, u "java/lang/Object"), (0, .class_ 3)] 3

/-- java/lang/Cloneable -/
def k3 : Class := { plain "java/lang/Cloneable" (some 0) with
  accessFlags := 1537
  interfaces := #[]
  cf := some (fileOf pool3 2 #[] #[] 1537 4 #[] #[])
  fields := #[]
  methods := #[]
  instanceTypes := #[]
  staticTypes := #[]
  resolved := Array.replicate 8 none
  statics := none }

def pool4 : Array CpInfo := pool [(1, u "java/io/Serializable"), (0, .class_ 1), (0, u "java/lang/Object"), (0, .class_ 3)] 3

/-- java/io/Serializable -/
def k4 : Class := { plain "java/io/Serializable" (some 0) with
  accessFlags := 1537
  interfaces := #[]
  cf := some (fileOf pool4 2 #[] #[] 1537 4 #[] #[])
  fields := #[]
  methods := #[]
  instanceTypes := #[]
  staticTypes := #[]
  resolved := Array.replicate 8 none
  statics := none }

/-- the primitive byte -/
def k5 : Class := { plain "byte" none with kind := .primitive 'B', accessFlags := 0x411 }
/-- [B -/
def k6 : Class := { plain "[B" (some 0) with kind := .array 5 .byte, interfaces := #[3, 4], accessFlags := 1041 }

/-- the primitive int -/
def k7 : Class := { plain "int" none with kind := .primitive 'I', accessFlags := 0x411 }
/-- [I -/
def k8 : Class := { plain "[I" (some 0) with kind := .array 7 .int, interfaces := #[3, 4], accessFlags := 1041 }

def heap : Heap := #[]
def classes : Array Class := #[k0, k1, k2, k3, k4, k5, k6, k7, k8]
def interned : List (Array UInt16 × Addr) := []
def slotsUsed : Nat := 0
def theMethod : MethodId := ⟨1, 1⟩
def args0 : Array Value := #[.long 5, .long 5, .int 5, .int 5, .int 5]
def aboutOver (below : List Frame) : State where
  vm := { classes := classes, interned := interned.toArray }
  heap := heap
  slotsUsed := slotsUsed
  threads := #[{ frames := .invoking theMethod args0 :: below }]
def below0 : List Frame := [.native { method := ⟨0, 0⟩, args := #[] }]
def about1 : State := aboutOver below0
def p0 : Program := .bare "" "" ""
def e0 : Env := launch0.env 0 0 0
theorem w_frames : about1.frames = Frame.invoking theMethod args0 :: below0 := rfl
set_option maxRecDepth 65536 in
theorem w_args : argsFit about1.vm theMethod args0 = true := by decide +kernel
set_option maxRecDepth 65536 in
theorem w_heap : heapFits about1 = true := by decide +kernel
set_option maxRecDepth 65536 in
theorem w_runnable : about1.curStatus? = some .runnable := by decide +kernel
set_option maxRecDepth 65536 in
theorem w_alone : about1.alone = true := by decide +kernel
set_option maxRecDepth 65536 in
theorem w_named : about1.methodNamed? x = some theMethod := by decide +kernel
set_option maxRecDepth 65536 in
theorem w_hears : about1.hears theMethod below0 = true := by decide +kernel
set_option maxRecDepth 65536 in
theorem w_ripe : about1.ripe theMethod args0 below0 = true := by decide +kernel
theorem w_running : about1.status = .running := rfl
set_option maxRecDepth 65536 in
theorem w_room : about1.hasRoom e0.platform room_1 = true :=
  launch0.hasRoom_least _ room_1 (by decide +kernel) (by decide +kernel) (by decide +kernel) (by decide +kernel) (by decide +kernel) (by decide +kernel)
theorem allAtoms_all (ts : List Jvm.Cond) (a : Array Jvm.Value) (st : Jvm.State) : (allAtoms ts).before a st = ts.all (fun c => c.before a st) := by
  induction ts with
  | nil => rfl
  | cons c t ih =>
    show (Jvm.Cond.and c (allAtoms t)).before a st = _
    rw [Jvm.Cond.before_and, ih, List.all_cons]
def words1 : List Jvm.Cond := Jvm.Cond.code x code maxLocals ret :: tables_1
/-- a 'code' word, met by the world's own term for the bytes: nothing is compared byte by byte -/
theorem code_word {y : MethodName} {bytes : ByteArray} {mx : Nat} {rt : Option FieldType} {a : Array Value} {s : State} {m : MethodId} {meth : Method} {c : Code} (h1 : s.methodNamed? y = some m) (h2 : s.vm.method? m = some meth) (h3 : meth.code = some c) (h4 : c.code = bytes)
    (h5 : (c.maxLocals == mx && c.exceptionTable.isEmpty && decide (c.maxStack ≤ mostOperands) && decide (meth.sig.returnType = rt) && !meth.locks && decide (parseMethodDescriptor y.desc = some meth.sig)) = true) : (Jvm.Cond.code y bytes mx rt).before a s = true := by
  simp only [Bool.and_eq_true, beq_iff_eq, Bool.not_eq_true', decide_eq_true_eq] at h5
  obtain ⟨⟨⟨⟨⟨g1, g2⟩, g3⟩, g4⟩, g5⟩, g6⟩ := h5
  simp [Cond.before, Cond.holds, Cond.value, h1, h2, h3, h4, g1, g2, g3, g4, g5, g6]
def isCode : Jvm.Cond → Bool
  | .code _ _ _ _ => true
  | _ => false
theorem all_split {L : List Jvm.Cond} {P : Jvm.Cond → Bool} (h1 : L.all (fun c => isCode c || P c) = true) (h2 : ∀ c ∈ L.filter isCode, P c = true) : L.all P = true := by
  refine List.all_eq_true.mpr fun c hc => ?_
  have h := List.all_eq_true.mp h1 c hc
  rcases Bool.eq_false_or_eq_true (isCode c) with hi | hi
  · exact h2 c (List.mem_filter.mpr ⟨hc, hi⟩)
  · simpa [hi] using h
set_option maxRecDepth 65536 in
theorem w_c0 : (Jvm.Cond.code x code maxLocals ret).before args0 about1 = true := code_word (m := ⟨1, 1⟩) (meth := k1m1) (c := k1c1) (by decide +kernel) rfl rfl rfl (by decide +kernel)
set_option maxRecDepth 65536 in
theorem w_c1 : (Jvm.Cond.code ({ cls := "com/example/kosha/kosha/ByteHashOfPinLaw", name := "fill", desc := "(J)[B" } : Jvm.MethodName) method_3_code (3 : Nat) (Option.some (Jvm.ClassFile.FieldType.array Jvm.ClassFile.FieldType.byte))).before args0 about1 = true := code_word (m := ⟨1, 2⟩) (meth := k1m2) (c := k1c2) (by decide +kernel) rfl rfl rfl (by decide +kernel)
set_option maxRecDepth 65536 in
theorem w_c2 : (Jvm.Cond.code ({ cls := "com/example/kosha/kosha/ByteHashOfPinLaw", name := "place", desc := "([BIII)V" } : Jvm.MethodName) method_4_code (4 : Nat) (Option.none : Option Jvm.ClassFile.FieldType)).before args0 about1 = true := code_word (m := ⟨1, 3⟩) (meth := k1m3) (c := k1c3) (by decide +kernel) rfl rfl rfl (by decide +kernel)
set_option maxRecDepth 65536 in
theorem w_c3 : (Jvm.Cond.code ({ cls := "com/example/kosha/kosha/ByteHash", name := "of", desc := "([BII)J" } : Jvm.MethodName) prog_16_method_2_code (6 : Nat) (Option.some Jvm.ClassFile.FieldType.long)).before args0 about1 = true := code_word (m := ⟨2, 1⟩) (meth := k2m1) (c := k2c1) (by decide +kernel) rfl rfl rfl (by decide +kernel)
def codes1 : List Jvm.Cond := [Jvm.Cond.code x code maxLocals ret, Jvm.Cond.code ({ cls := "com/example/kosha/kosha/ByteHashOfPinLaw", name := "fill", desc := "(J)[B" } : Jvm.MethodName) method_3_code (3 : Nat) (Option.some (Jvm.ClassFile.FieldType.array Jvm.ClassFile.FieldType.byte)), Jvm.Cond.code ({ cls := "com/example/kosha/kosha/ByteHashOfPinLaw", name := "place", desc := "([BIII)V" } : Jvm.MethodName) method_4_code (4 : Nat) (Option.none : Option Jvm.ClassFile.FieldType), Jvm.Cond.code ({ cls := "com/example/kosha/kosha/ByteHash", name := "of", desc := "([BII)J" } : Jvm.MethodName) prog_16_method_2_code (6 : Nat) (Option.some Jvm.ClassFile.FieldType.long)]
set_option maxRecDepth 65536 in
theorem codes_eq : words1.filter isCode = codes1 := rfl
theorem w_codes : ∀ c ∈ words1.filter isCode, c.before args0 about1 = true := by
  rw [codes_eq]
  intro c hc
  simp only [codes1, List.mem_cons, List.not_mem_nil, or_false] at hc
  rcases hc with rfl | rfl | rfl | rfl
  · exact w_c0
  · exact w_c1
  · exact w_c2
  · exact w_c3
set_option maxRecDepth 65536 in
theorem w_t1 : words1.all (fun c => isCode c || c.before args0 about1) = true := by decide +kernel
theorem w_tables : (allAtoms (Jvm.Cond.code x code maxLocals ret :: tables_1)).before args0 about1 = true := by
  rw [allAtoms_all]
  show words1.all (fun c => c.before args0 about1) = true
  refine all_split ?_ w_codes
  rw [w_t1]
set_option maxRecDepth 65536 in
theorem w_case : (Jvm.Cond.and given_1 narrow_1).before args0 about1 = true := by decide +kernel
theorem w_applies : (headSpec (Jvm.Cond.code x code maxLocals ret :: tables_1) room_1).applies x e0.platform about1 = true :=
  (Spec.applies_iff w_frames).mpr ⟨w_running, w_runnable, w_alone, w_named, w_hears, w_ripe, w_room, w_tables⟩
theorem atStart : AtStart classFile x code maxLocals ret World_1 tables_1 room_1 Calls_1 rest_1 Pre_1 launch0 p0 e0 about1 theMethod args0 below0 :=
  ⟨lists_1, trivial, launch0.admits_env _ _ _, launch0.least_env, fairChoices_fair.cas, fairChoices_fair.clock, w_frames, w_args, w_heap, w_applies, trivial, trivial, w_case⟩
end start1
theorem witness_1 : WitnessClaimed_1 := ⟨start1.p0, start1.e0, start1.about1, start1.theMethod, start1.args0, start1.below0, start1.atStart⟩
end Jvm.Pilot.@@N@@
