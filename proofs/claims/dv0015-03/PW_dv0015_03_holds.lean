import PyProof.Rows.All
import Wide.All
import OpenK.AllK
import Wide.FinOn
import PySem.Challenge.RW_dv0015_03
set_option Elab.async false
set_option bootstrap.genMatcherCode false
section
set_option linter.all false
set_option bootstrap.genMatcherCode false
namespace Mine
inductive Lx where
  | v (i : Nat) | k (n : Nat) | a (x y : Lx) | m (n : Nat) (x : Lx)
noncomputable def Lx.ev (c : List Nat) : Lx → Nat := Lx.rec (fun i => c.getD i 0) (fun n => n) (fun _ _ x y => x + y) (fun n _ x => n * x)
noncomputable def Lx.co (i : Nat) : Lx → Nat := Lx.rec (fun j => (Nat.beq i j).rec 0 1) (fun _ => 0) (fun _ _ x y => x + y) (fun n _ x => n * x)
noncomputable def Lx.cn : Lx → Nat := Lx.rec (fun _ => 0) (fun n => n) (fun _ _ x y => x + y) (fun n _ x => n * x)
inductive Hx where
  | n | c (n : Nat) (l r : Lx) (t : Hx)
noncomputable def Hx.den (c : List Nat) (G : Prop) : Hx → Prop := Hx.rec G (fun _ l r _ t => l.ev c ≤ r.ev c → t)
noncomputable def Hx.lt (l : Lx) : Hx → Lx := Hx.rec l (fun n _ r _ t => .a (.m n r) t)
noncomputable def Hx.rt (r : Lx) : Hx → Lx := Hx.rec r (fun n l _ _ t => .a (.m n l) t)
noncomputable def dot : List Nat → (Nat → Nat) → Nat := List.rec (fun _ => 0) (fun x _ t f => f 0 * x + t fun i => f (i + 1))
theorem dot_add (c : List Nat) : ∀ f g, dot c (fun i => f i + g i) = dot c f + dot c g := by
  induction c with
  | nil => exact fun _ _ => rfl
  | cons x c h =>
    intro f g
    show (f 0 + g 0) * x + dot c _ = (f 0 * x + dot c _) + (g 0 * x + dot c _)
    rw [h, Nat.add_mul, Nat.add_add_add_comm]
theorem dot_mul (c : List Nat) (n : Nat) : ∀ f, dot c (fun i => n * f i) = n * dot c f := by
  induction c with
  | nil => exact fun _ => rfl
  | cons x c h =>
    intro f
    show n * f 0 * x + dot c _ = n * (f 0 * x + dot c _)
    rw [h, Nat.mul_add, Nat.mul_assoc]
theorem dot_zero (c : List Nat) : dot c (fun _ => 0) = 0 := by
  induction c with
  | nil => rfl
  | cons x c h =>
    show 0 * x + dot c _ = 0
    rw [h, Nat.zero_mul]
theorem dot_one (c : List Nat) : ∀ j, dot c (fun i => (Nat.beq i j).rec 0 1) = c.getD j 0 := by
  induction c with
  | nil => exact fun _ => rfl
  | cons x c h =>
    intro j
    cases j with
    | zero => show 1 * x + dot c (fun _ => 0) = x; rw [dot_zero, Nat.one_mul]; rfl
    | succ j => show 0 * x + dot c (fun i => (Nat.beq i j).rec 0 1) = c.getD j 0; rw [h, Nat.zero_mul, Nat.zero_add]
theorem dot_le (c : List Nat) : ∀ f g, (∀ i, i < c.length → f i ≤ g i) → dot c f ≤ dot c g := by
  induction c with
  | nil => exact fun _ _ _ => Nat.le_refl _
  | cons x c h => exact fun f g q => Nat.add_le_add (Nat.mul_le_mul_right _ (q 0 (Nat.zero_lt_succ _))) (h _ _ fun i hi => q (i + 1) (Nat.succ_lt_succ hi))
theorem Lx.is (c : List Nat) (e : Lx) : e.ev c = e.cn + dot c (fun i => e.co i) := by
  induction e with
  | v j => exact ((Nat.zero_add _).trans (dot_one c j)).symm
  | k n => exact (congrArg (n + ·) (dot_zero c)).symm
  | a x y hx hy => show x.ev c + y.ev c = (x.cn + y.cn) + dot c (fun i => x.co i + y.co i); rw [hx, hy, dot_add, Nat.add_add_add_comm]
  | m n x hx => show n * x.ev c = n * x.cn + dot c (fun i => n * x.co i); rw [hx, dot_mul, Nat.mul_add]
noncomputable def chk (A B : Lx) : Nat → Bool := Nat.rec (Nat.ble A.cn B.cn) (fun i x => (Nat.ble (A.co i) (B.co i)).rec false x)
theorem chk_le (A B : Lx) (c : List Nat) (h : chk A B c.length = true) : A.ev c ≤ B.ev c := by
  have q : ∀ n, chk A B n = true → A.cn ≤ B.cn ∧ ∀ i, i < n → A.co i ≤ B.co i := by
    intro n
    induction n with
    | zero => exact fun h => ⟨Nat.le_of_ble_eq_true h, fun i hi => absurd hi (Nat.not_lt_zero i)⟩
    | succ n ih =>
      intro h
      change (Nat.ble (A.co n) (B.co n)).rec false (chk A B n) = true at h
      cases e : Nat.ble (A.co n) (B.co n) with
      | false => rw [e] at h; cases h
      | true =>
        rw [e] at h
        refine ⟨(ih h).1, fun i hi => (Nat.lt_or_eq_of_le (Nat.le_of_lt_succ hi)).elim ((ih h).2 i) fun w => ?_⟩
        rw [w]; exact Nat.le_of_ble_eq_true e
  rw [A.is, B.is]
  exact Nat.add_le_add (q _ h).1 (dot_le _ _ _ (q _ h).2)
theorem lin (c : List Nat) (hs : Hx) (l r : Lx) (h : chk (hs.lt l) (hs.rt r) c.length = true) : hs.den c (l.ev c ≤ r.ev c) := by
  replace h := chk_le _ _ c h
  induction hs with
  | n => exact h
  | c n x y t ih =>
    intro w
    refine ih (Nat.le_of_add_le_add_left (Nat.le_trans (show n * y.ev c + (t.lt l).ev c ≤ n * x.ev c + (t.rt r).ev c from h) (Nat.add_le_add_right (Nat.mul_le_mul_left n w) _)))
theorem sA (a b : Nat) : a ≤ a - b + b := Nat.le_add_of_sub_le (Nat.le_refl _)
end Mine
namespace Mine
section
open Lx
theorem o0 {a0 : Nat}  : 0 ≤ a0 := lin [a0] .n (k 0) (v 0) rfl
theorem o1 {a0 a1 a2 : Nat} (h0 : a0 + 1 ≤ a1 - a2) : a0 ≤ a1 - a2 := lin [a0, a1, a2, (a1 - a2)] (.c 1 (a (v 0) (k 1)) (v 3) .n) (v 0) (v 3) rfl h0
theorem o2 {a0 a1 a2 : Nat} (h0 : a2 + 1 ≤ a0 - a1) : a0 - a1 - a2 > 0 := lin [a0, a1, a2, (a0 - a1), ((a0 - a1) - a2)] (.c 1 (a (v 2) (k 1)) (v 3) (.c 1 (v 3) (a (v 4) (v 2)) .n)) (a (k 0) (k 1)) (v 4) rfl h0 (sA (a0 - a1) a2)
theorem o4 {a0 a1 : Nat}  : ¬a0 - a1 - (a0 - a1) > 0 := Nat.not_lt_of_le (lin [a0, a1, (a0 - a1), ((a0 - a1) - (a0 - a1))] (.c 1 (a (v 3) (v 2)) (v 2) .n) (v 3) (k 0) rfl (Nat.le_of_eq (Nat.sub_add_cancel (lin [a0, a1, (a0 - a1), ((a0 - a1) - (a0 - a1))] .n (v 2) (v 2) rfl))))
theorem o6 {a0 : Nat}  : 13 ≤ 13 + a0 := lin [a0] .n (k 13) (a (k 13) (v 0)) rfl
theorem o7 {a0 : Nat} (h0 : a0 ≤ 7) : a0 < 8 := lin [a0] (.c 1 (v 0) (k 7) .n) (a (v 0) (k 1)) (k 8) rfl h0
theorem o8 {a0 : Nat} (h0 : a0 < 8) : 13 + a0 < 14 + 7 := lin [a0] (.c 1 (a (v 0) (k 1)) (k 8) .n) (a (a (k 13) (v 0)) (k 1)) (a (k 14) (k 7)) rfl h0
theorem o9 {a0 : Nat} (h0 : a0 ≤ 31) : a0 < 32 := lin [a0] (.c 1 (v 0) (k 31) .n) (a (v 0) (k 1)) (k 32) rfl h0
theorem o10 {a0 : Nat} (h0 : a0 < 32) : 13 + a0 < 14 + 31 := lin [a0] (.c 1 (a (v 0) (k 1)) (k 32) .n) (a (a (k 13) (v 0)) (k 1)) (a (k 14) (k 31)) rfl h0
theorem o11 {a0 a1 a2 : Nat} (h0 : a0 ≤ 10 * a2) (h1 : a2 < 14 + a1) : a0 < 10 * (a1 + 15) := lin [a0, a1, a2] (.c 1 (v 0) (m 10 (v 2)) (.c 10 (a (v 2) (k 1)) (a (k 14) (v 1)) .n)) (a (v 0) (k 1)) (m 10 (a (v 1) (k 15))) rfl h0 h1
theorem o13 {a0 a1 a2 : Nat} (h0 : a0 ≤ a2) (h1 : a2 ≤ a1) : a0 ≤ a1 := lin [a0, a1, a2] (.c 1 (v 0) (v 2) (.c 1 (v 2) (v 1) .n)) (v 0) (v 1) rfl h0 h1
theorem o14 {a0 a1 a2 : Nat} (h0 : a0 - a2 ≤ 0) (h1 : a2 ≤ a1) : a0 ≤ a1 := lin [a0, a1, a2, (a0 - a2)] (.c 1 (v 3) (k 0) (.c 1 (v 2) (v 1) (.c 1 (v 0) (a (v 3) (v 2)) .n))) (v 0) (v 1) rfl h0 h1 (sA a0 a2)
theorem o15 {a0 a1 a2 : Nat} (h0 : a1 ≤ a2) (h1 : a0 < a1) : (a0 + a1) / 2 < a2 := by lia
theorem o16 {a0 a1 : Nat} (h0 : a0 < a1) : (a0 + a1) / 2 + 1 ≤ a1 := by lia
theorem o17 {a0 a1 a2 : Nat} (h0 : a0 - a1 ≤ a2 + 1) : a0 - ((a1 + a0) / 2 + 1) ≤ a2 := (Nat.le_total (((a1 + a0) / 2) + 1) a0).elim (fun w0 => lin [a0, a1, a2, (a0 - a1), ((a1 + a0) / 2), (a0 - (((a1 + a0) / 2) + 1))] (.c 1 (v 3) (a (v 2) (k 1)) (.c 1 (a (v 4) (k 1)) (v 0) (.c 1 (a (v 5) (a (v 4) (k 1))) (v 0) (.c 1 (v 0) (a (v 3) (v 1)) (.c 1 (a (a (v 1) (v 0)) (k 1)) (m 2 (a (v 4) (k 1))) .n))))) (v 5) (v 2) rfl h0 w0 (Nat.le_of_eq (Nat.sub_add_cancel w0)) (sA a0 a1) (Nat.lt_mul_div_succ (a1 + a0) (by decide : 0 < 2))) (fun w0 => lin [a0, a1, a2, (a0 - a1), ((a1 + a0) / 2), (a0 - (((a1 + a0) / 2) + 1))] (.c 1 (v 5) (k 0) .n) (v 5) (v 2) rfl (Nat.le_of_eq (Nat.sub_eq_zero_of_le w0)))
theorem o18 {a0 a1 a2 : Nat} (h0 : a0 < (a1 + a2) / 2 + 1) : a0 ≤ (a1 + a2) / 2 := lin [a0, a1, a2, ((a1 + a2) / 2)] (.c 1 (a (v 0) (k 1)) (a (v 3) (k 1)) .n) (v 0) (v 3) rfl h0
theorem o19 {a0 a1 : Nat} (h0 : a0 < a1) : a0 ≤ (a0 + a1) / 2 := Nat.le_of_mul_le_mul_left (lin [a0, a1, ((a0 + a1) / 2)] (.c 1 (a (v 0) (k 1)) (v 1) (.c 1 (a (a (v 0) (v 1)) (k 1)) (m 2 (a (v 2) (k 1))) .n)) (m 2 (v 0)) (m 2 (v 2)) rfl h0 (Nat.lt_mul_div_succ (a0 + a1) (by decide : 0 < 2))) (by decide : 0 < 2)
theorem o20 {a0 a1 a2 : Nat} (h0 : (a0 + a1) / 2 < a2) : (a0 + a1) / 2 ≤ a2 := lin [a0, a1, a2, ((a0 + a1) / 2)] (.c 1 (a (v 3) (k 1)) (v 2) .n) (v 3) (v 2) rfl h0
theorem o21 {a0 a1 a2 : Nat} (h0 : a1 - a0 ≤ a2 + 1) : (a0 + a1) / 2 - a0 ≤ a2 := Nat.sub_le_of_le_add (Nat.le_of_lt_succ (Nat.lt_of_mul_lt_mul_left (a := 2) (lin [a0, a1, a2, (a0 + a1) / 2, a1 - a0] (.c 1 (m 2 (v 3)) (a (v 0) (v 1)) (.c 1 (v 1) (a (v 4) (v 0)) (.c 1 (v 4) (a (v 2) (k 1)) .n))) (a (m 2 (v 3)) (k 1)) (m 2 (a (a (v 2) (v 0)) (k 1))) rfl (Nat.mul_div_le (a0 + a1) 2) (sA a1 a0) h0)))
theorem o22 {a0 a1 : Nat} (h0 : ¬a1 < a0) : a0 ≤ a1 := lin [a0, a1] (.c 1 (v 0) (v 1) .n) (v 0) (v 1) rfl (Nat.le_of_not_lt h0)
theorem o23 {a0 a1 a2 : Nat} (h0 : a2 ≤ a1) (h1 : ¬a2 < a0) : a0 ≤ a1 := lin [a0, a1, a2] (.c 1 (v 2) (v 1) (.c 1 (v 0) (v 2) .n)) (v 0) (v 1) rfl h0 (Nat.le_of_not_lt h1)
theorem o24 {a0 : Nat}  : a0 - 0 ≤ a0 := lin [a0, (a0 - 0)] (.c 1 (v 1) (v 0) .n) (v 1) (v 0) rfl (Nat.sub_le a0 0)
theorem o25 {a0 a1 a2 : Nat} (h0 : a0 < a2) (h1 : a2 < a1) : a0 < a1 := lin [a0, a1, a2] (.c 1 (a (v 0) (k 1)) (v 2) (.c 1 (a (v 2) (k 1)) (v 1) .n)) (a (v 0) (k 1)) (v 1) rfl h0 h1
theorem o27 {a0 a1 : Nat} (h0 : a0 ≤ a1) : a0 ≤ a1 := lin [a0, a1] (.c 1 (v 0) (v 1) .n) (v 0) (v 1) rfl h0
theorem o28 {a0 a1 a2 : Nat} (h0 : a0 ≤ a2) (h1 : a2 < a1) : a0 ≤ a1 := lin [a0, a1, a2] (.c 1 (v 0) (v 2) (.c 1 (a (v 2) (k 1)) (v 1) .n)) (v 0) (v 1) rfl h0 h1
theorem o29 {a0 a1 : Nat} (h0 : a0 < a1 + 1) : a0 ≤ a1 := lin [a0, a1] (.c 1 (a (v 0) (k 1)) (a (v 1) (k 1)) .n) (v 0) (v 1) rfl h0
theorem o31 {a0 a1 a2 : Nat} (h0 : a0 ≤ a2) (h1 : a2 < 10 * a1) : a0 < 10 * a1 := lin [a0, a1, a2] (.c 1 (v 0) (v 2) (.c 1 (a (v 2) (k 1)) (m 10 (v 1)) .n)) (a (v 0) (k 1)) (m 10 (v 1)) rfl h0 h1
theorem o32 {a0 a1 : Nat} (h0 : a0 ≤ a1) (h1 : ¬a0 = a1) : a0 < a1 := Nat.lt_of_le_of_ne h0 h1
theorem o33 {a0 a1 : Nat} (h0 : a0 ≤ a1) (h1 : ¬a0 = a1) : a0 + 1 ≤ a1 := Nat.lt_of_le_of_ne h0 h1
theorem o34 {a0 a1 a2 : Nat} (h0 : a1 ≤ a0) (h1 : a0 - a1 < a2 + 1) (h2 : ¬a1 = a0) : a0 - (a1 + 1) < a2 := by lia
theorem o35 {a0 a1 : Nat} (h0 : a0 + 1 ≤ a1) : a0 ≤ a1 := lin [a0, a1] (.c 1 (a (v 0) (k 1)) (v 1) .n) (v 0) (v 1) rfl h0
theorem o36 {a0 a1 : Nat} (h0 : a0 < 10 * a1) : a0 - 0 < 10 * a1 := lin [a0, a1, (a0 - 0)] (.c 1 (a (v 0) (k 1)) (m 10 (v 1)) (.c 1 (v 2) (v 0) .n)) (a (v 2) (k 1)) (m 10 (v 1)) rfl h0 (Nat.sub_le a0 0)
theorem o37 {a0 : Int}  : a0 + (1 : Int) ≠ a0 := Int.ne_of_gt (Int.lt_succ a0)
theorem o38 {a0 a1 a2 : Nat} (h0 : a1 = a2) (h1 : a0 < a2) : a0 < a1 := lin [a0, a1, a2] (.c 1 (v 2) (v 1) (.c 1 (a (v 0) (k 1)) (v 2) .n)) (a (v 0) (k 1)) (v 1) rfl (Nat.le_of_eq h0.symm) h1
theorem o39 {a0 a1 a2 a3 : Nat} (h0 : a2 ≤ a1) (h1 : a0 < min a2 a3) : a0 < a1 := lin [a0, a1, a2, a3, (min a2 a3)] (.c 1 (v 2) (v 1) (.c 1 (a (v 0) (k 1)) (v 4) (.c 1 (v 4) (v 2) .n))) (a (v 0) (k 1)) (v 1) rfl h0 h1 (Nat.min_le_left a2 a3)
theorem o40 {a0 a1 a2 : Nat} (h0 : a0 < min a1 a2) : a0 < a1 := lin [a0, a1, a2, (min a1 a2)] (.c 1 (a (v 0) (k 1)) (v 3) (.c 1 (v 3) (v 1) .n)) (a (v 0) (k 1)) (v 1) rfl h0 (Nat.min_le_left a1 a2)
theorem o41 {a0 a1 a2 : Nat} (h0 : a0 < min a2 a1) : a0 < a1 := lin [a0, a1, a2, (min a2 a1)] (.c 1 (a (v 0) (k 1)) (v 3) (.c 1 (v 3) (v 1) .n)) (a (v 0) (k 1)) (v 1) rfl h0 (Nat.min_le_right a2 a1)
theorem o42 {a0 a1 a2 a3 : Nat} (h0 : a2 = a3) (h1 : a1 < a3 - a0) : a0 + a1 < a2 := (Nat.le_total a0 a3).elim (fun w0 => lin [a0, a1, a2, a3, (a3 - a0)] (.c 1 (v 3) (v 2) (.c 1 (a (v 1) (k 1)) (v 4) (.c 1 (a (v 4) (v 0)) (v 3) .n))) (a (a (v 0) (v 1)) (k 1)) (v 2) rfl (Nat.le_of_eq h0.symm) h1 (Nat.le_of_eq (Nat.sub_add_cancel w0))) (fun w0 => (Nat.not_succ_le_zero 0 (lin [a0, a1, a2, a3, (a3 - a0)] (.c 1 (a (v 1) (k 1)) (v 4) (.c 1 (v 4) (k 0) .n)) (k 1) (k 0) rfl h1 (Nat.le_of_eq (Nat.sub_eq_zero_of_le w0)))).elim)
theorem o43 {a0 a1 : Nat}  : a0 ≤ a0 + a1 := lin [a0, a1] .n (v 0) (a (v 0) (v 1)) rfl
theorem o44 {a0 a1 a2 : Nat} (h0 : a1 < a2 - a0) : a0 + a1 < a2 := (Nat.le_total a0 a2).elim (fun w0 => lin [a0, a1, a2, (a2 - a0)] (.c 1 (a (v 1) (k 1)) (v 3) (.c 1 (a (v 3) (v 0)) (v 2) .n)) (a (a (v 0) (v 1)) (k 1)) (v 2) rfl h0 (Nat.le_of_eq (Nat.sub_add_cancel w0))) (fun w0 => (Nat.not_succ_le_zero 0 (lin [a0, a1, a2, (a2 - a0)] (.c 1 (a (v 1) (k 1)) (v 3) (.c 1 (v 3) (k 0) .n)) (k 1) (k 0) rfl h0 (Nat.le_of_eq (Nat.sub_eq_zero_of_le w0)))).elim)
theorem o45 {a0 a1 a2 a3 a4 a5 a6 : Nat} (h0 : a3 ≤ a4 ∧ a4 ≤ a3 + 9) (h1 : a5 + (a6 + 1) ≤ a2) (h2 : a0 ≤ 10 * a5) (h3 : a1 < a4 + 1 - a3) : a0 + a1 < 10 * a2 := (Nat.le_total a3 (a4 + 1)).elim (fun w0 => lin [a0, a1, a2, a3, a4, a5, a6, ((a4 + 1) - a3)] (.c 1 (v 4) (a (v 3) (k 9)) (.c 10 (a (v 5) (a (v 6) (k 1))) (v 2) (.c 1 (v 0) (m 10 (v 5)) (.c 1 (a (v 1) (k 1)) (v 7) (.c 1 (a (v 7) (v 3)) (a (v 4) (k 1)) .n))))) (a (a (v 0) (v 1)) (k 1)) (m 10 (v 2)) rfl h0.2 h1 h2 h3 (Nat.le_of_eq (Nat.sub_add_cancel w0))) (fun w0 => lin [a0, a1, a2, a3, a4, a5, a6, ((a4 + 1) - a3)] (.c 10 (a (v 5) (a (v 6) (k 1))) (v 2) (.c 1 (v 0) (m 10 (v 5)) (.c 1 (a (v 1) (k 1)) (v 7) (.c 1 (v 7) (k 0) .n)))) (a (a (v 0) (v 1)) (k 1)) (m 10 (v 2)) rfl h1 h2 h3 (Nat.le_of_eq (Nat.sub_eq_zero_of_le w0)))
theorem o46 {a0 a1 a2 : Nat} (h0 : a0 < a1 + 1 - a2) : a0 ≤ a1 - a2 := (Nat.le_total a2 (a1 + 1)).elim (fun w0 => lin [a0, a1, a2, ((a1 + 1) - a2), (a1 - a2)] (.c 1 (a (v 0) (k 1)) (v 3) (.c 1 (a (v 3) (v 2)) (a (v 1) (k 1)) (.c 1 (v 1) (a (v 4) (v 2)) .n))) (v 0) (v 4) rfl h0 (Nat.le_of_eq (Nat.sub_add_cancel w0)) (sA a1 a2)) (fun w0 => lin [a0, a1, a2, ((a1 + 1) - a2), (a1 - a2)] (.c 1 (a (v 0) (k 1)) (v 3) (.c 1 (v 3) (k 0) .n)) (v 0) (v 4) rfl h0 (Nat.le_of_eq (Nat.sub_eq_zero_of_le w0)))
theorem o47 {a0 a1 a2 a3 : Nat} (h0 : a3 ≤ a2) (h1 : a1 < a3 + 1 - a0) : a0 + a1 ≤ a2 := (Nat.le_total a0 (a3 + 1)).elim (fun w0 => lin [a0, a1, a2, a3, ((a3 + 1) - a0)] (.c 1 (v 3) (v 2) (.c 1 (a (v 1) (k 1)) (v 4) (.c 1 (a (v 4) (v 0)) (a (v 3) (k 1)) .n))) (a (v 0) (v 1)) (v 2) rfl h0 h1 (Nat.le_of_eq (Nat.sub_add_cancel w0))) (fun w0 => (Nat.not_succ_le_zero 0 (lin [a0, a1, a2, a3, ((a3 + 1) - a0)] (.c 1 (a (v 1) (k 1)) (v 4) (.c 1 (v 4) (k 0) .n)) (k 1) (k 0) rfl h1 (Nat.le_of_eq (Nat.sub_eq_zero_of_le w0)))).elim)
theorem o48 {a0 a1 a2 : Nat} (h0 : a0 < a1 + a2) (h1 : ¬a0 < a1) : a0 - a1 < a2 := lin [a0, a1, a2, (a0 - a1)] (.c 1 (a (v 0) (k 1)) (a (v 1) (v 2)) (.c 1 (a (v 3) (v 1)) (v 0) .n)) (a (v 3) (k 1)) (v 2) rfl h0 (Nat.le_of_eq (Nat.sub_add_cancel (lin [a0, a1, a2, (a0 - a1)] (.c 1 (v 1) (v 0) .n) (v 1) (v 0) rfl (Nat.le_of_not_lt h1))))
theorem o49 {a0 a1 : Nat} (h0 : ¬a0 < a1) : a0 = a1 + (a0 - a1) := Nat.le_antisymm (lin [a0, a1, (a0 - a1)] (.c 1 (v 0) (a (v 2) (v 1)) .n) (v 0) (a (v 1) (v 2)) rfl (sA a0 a1)) (lin [a0, a1, (a0 - a1)] (.c 1 (a (v 2) (v 1)) (v 0) .n) (a (v 1) (v 2)) (v 0) rfl (Nat.le_of_eq (Nat.sub_add_cancel (lin [a0, a1, (a0 - a1)] (.c 1 (v 1) (v 0) .n) (v 1) (v 0) rfl (Nat.le_of_not_lt h0)))))
theorem o51 {a0 a1 a2 a3 a4 a5 : Nat} (h0 : a4 ≤ a3) (h1 : a5 < a4 + 1 - a0) (h2 : a1 < a2 + a5) : a0 + (a1 - a2) ≤ a3 := (Nat.le_total a0 (a4 + 1)).elim (fun w0 => (Nat.le_total a2 a1).elim (fun w1 => lin [a0, a1, a2, a3, a4, a5, ((a4 + 1) - a0), (a1 - a2)] (.c 1 (v 4) (v 3) (.c 1 (a (v 5) (k 1)) (v 6) (.c 1 (a (v 1) (k 1)) (a (v 2) (v 5)) (.c 1 (a (v 6) (v 0)) (a (v 4) (k 1)) (.c 1 (a (v 7) (v 2)) (v 1) .n))))) (a (v 0) (v 7)) (v 3) rfl h0 h1 h2 (Nat.le_of_eq (Nat.sub_add_cancel w0)) (Nat.le_of_eq (Nat.sub_add_cancel w1))) (fun w1 => lin [a0, a1, a2, a3, a4, a5, ((a4 + 1) - a0), (a1 - a2)] (.c 1 (v 4) (v 3) (.c 1 (a (v 5) (k 1)) (v 6) (.c 1 (a (v 6) (v 0)) (a (v 4) (k 1)) (.c 1 (v 7) (k 0) .n)))) (a (v 0) (v 7)) (v 3) rfl h0 h1 (Nat.le_of_eq (Nat.sub_add_cancel w0)) (Nat.le_of_eq (Nat.sub_eq_zero_of_le w1)))) (fun w0 => (Nat.not_succ_le_zero 0 (lin [a0, a1, a2, a3, a4, a5, ((a4 + 1) - a0), (a1 - a2)] (.c 1 (a (v 5) (k 1)) (v 6) (.c 1 (v 6) (k 0) .n)) (k 1) (k 0) rfl h1 (Nat.le_of_eq (Nat.sub_eq_zero_of_le w0)))).elim)
theorem o52 {a0 a1 a2 : Nat} (h0 : a2 ≤ a1 ∧ a1 ≤ a2 + 9) (h1 : a0 ≤ a1 - a2) : a0 < a1 + 1 - a2 := lin [a0, a1, a2, (a1 - a2), ((a1 + 1) - a2)] (.c 1 (v 0) (v 3) (.c 1 (a (v 1) (k 1)) (a (v 4) (v 2)) (.c 1 (a (v 3) (v 2)) (v 1) .n))) (a (v 0) (k 1)) (v 4) rfl h1 (sA (a1 + 1) a2) (Nat.le_of_eq (Nat.sub_add_cancel (lin [a0, a1, a2, (a1 - a2), ((a1 + 1) - a2)] (.c 1 (v 2) (v 1) .n) (v 2) (v 1) rfl h0.1)))
theorem o53 {a0 a1 a2 a3 : Nat} (h0 : a0 ≤ a3 ∧ a3 ≤ a0 + 9) (h1 : a3 ≤ a2) (h2 : a1 ≤ a3 - a0) : a0 + a1 ≤ a2 := lin [a0, a1, a2, a3, (a3 - a0)] (.c 1 (v 3) (v 2) (.c 1 (v 1) (v 4) (.c 1 (a (v 4) (v 0)) (v 3) .n))) (a (v 0) (v 1)) (v 2) rfl h1 h2 (Nat.le_of_eq (Nat.sub_add_cancel (lin [a0, a1, a2, a3, (a3 - a0)] (.c 1 (v 0) (v 3) .n) (v 0) (v 3) rfl h0.1)))
theorem o54 {a0 a1 a2 a3 : Nat} (h0 : a0 < a1 + (a2 - a3) + 1) : a0 - a1 ≤ a2 - a3 := (Nat.le_total a3 a2).elim (fun w0 => (Nat.le_total a1 a0).elim (fun w1 => lin [a0, a1, a2, a3, (a2 - a3), (a0 - a1)] (.c 1 (a (v 0) (k 1)) (a (a (v 1) (v 4)) (k 1)) (.c 1 (a (v 5) (v 1)) (v 0) .n)) (v 5) (v 4) rfl h0 (Nat.le_of_eq (Nat.sub_add_cancel w1))) (fun w1 => lin [a0, a1, a2, a3, (a2 - a3), (a0 - a1)] (.c 1 (v 5) (k 0) .n) (v 5) (v 4) rfl (Nat.le_of_eq (Nat.sub_eq_zero_of_le w1)))) (fun w0 => lin [a0, a1, a2, a3, (a2 - a3), (a0 - a1)] (.c 1 (v 5) (k 0) .n) (v 5) (v 4) rfl (Nat.le_of_eq (Nat.sub_eq_zero_of_le (lin [a0, a1, a2, a3, (a2 - a3), (a0 - a1)] (.c 1 (a (v 0) (k 1)) (a (a (v 1) (v 4)) (k 1)) (.c 1 (v 4) (k 0) .n)) (v 0) (v 1) rfl h0 (Nat.le_of_eq (Nat.sub_eq_zero_of_le w0))))))
theorem o55 {a0 a1 : Nat} (h0 : a0 ≤ a1) (h1 : a1 ≠ a0) : a0 + 1 ≤ a1 := Nat.lt_of_le_of_ne h0 h1.symm
theorem o56 {a0 a1 a2 : Nat} (h0 : a0 < a1 + (a2 + 1)) : a0 < a1 + 1 + a2 := lin [a0, a1, a2] (.c 1 (a (v 0) (k 1)) (a (v 1) (a (v 2) (k 1))) .n) (a (v 0) (k 1)) (a (a (v 1) (k 1)) (v 2)) rfl h0
theorem o57 {a0 a1 a2 : Nat} (h0 : a0 + (a1 + 1) ≤ a2) : a0 + 1 + a1 ≤ a2 := lin [a0, a1, a2] (.c 1 (a (v 0) (a (v 1) (k 1))) (v 2) .n) (a (a (v 0) (k 1)) (v 1)) (v 2) rfl h0
theorem o58 {a0 a1 : Nat} (h0 : a0 ≤ a1) : a0 < a1 + 1 := lin [a0, a1] (.c 1 (v 0) (v 1) .n) (a (v 0) (k 1)) (a (v 1) (k 1)) rfl h0
theorem o59 {a0 a1 : Nat} (h0 : a0 < 14 + a1) : a0 < 0 + (a1 + 15) := lin [a0, a1] (.c 1 (a (v 0) (k 1)) (a (k 14) (v 1)) .n) (a (v 0) (k 1)) (a (k 0) (a (v 1) (k 15))) rfl h0
theorem o60 {a0 : Nat}  : 0 + a0 ≤ a0 := lin [a0] .n (a (k 0) (v 0)) (v 0) rfl
theorem o61 {a0 a1 : Nat} (h0 : a0 < a1) : a0 + 1 ≤ a1 := lin [a0, a1] (.c 1 (a (v 0) (k 1)) (v 1) .n) (a (v 0) (k 1)) (v 1) rfl h0
theorem o62 {a0 a1 a2 : Nat} (h0 : a0 + (a2 + 1) ≤ a1 + 1) : a0 ≤ a1 := lin [a0, a1, a2] (.c 1 (a (v 0) (a (v 2) (k 1))) (a (v 1) (k 1)) .n) (v 0) (v 1) rfl h0
theorem o63 {a0 a1 a2 : Nat} (h0 : a0 + (a1 + 1) ≤ a2 + 1) : a0 + 1 + a1 ≤ a2 + 1 := lin [a0, a1, a2] (.c 1 (a (v 0) (a (v 1) (k 1))) (a (v 2) (k 1)) .n) (a (a (v 0) (k 1)) (v 1)) (a (v 2) (k 1)) rfl h0
theorem o64 {a0 a1 : Nat} (h0 : a0 = a1) (h1 : a1 ≤ 18) : a0 ≤ 32 := lin [a0, a1] (.c 1 (v 0) (v 1) (.c 1 (v 1) (k 18) .n)) (v 0) (k 32) rfl (Nat.le_of_eq h0) h1
theorem o66 {a0 a1 : Nat} (h0 : a0 ≤ 310 + 3 * a1) : a0 + 1 ≤ 310 + 3 * (a1 + 1) := lin [a0, a1] (.c 1 (v 0) (a (k 310) (m 3 (v 1))) .n) (a (v 0) (k 1)) (a (k 310) (m 3 (a (v 1) (k 1)))) rfl h0
theorem o67 {a0 a1 : Nat} (h0 : a0 ≤ 100 + 20 * a1) : a0 + 3 ≤ 100 + 20 * (a1 + 1) := lin [a0, a1] (.c 1 (v 0) (a (k 100) (m 20 (v 1))) .n) (a (v 0) (k 3)) (a (k 100) (m 20 (a (v 1) (k 1)))) rfl h0
theorem o68 {a0 a1 a2 : Nat} {a3 : Prop} (h0 : a0 ≤ 310 + 3 * a1 ∧ a2 ≤ 100 + 20 * a1 ∧ a1 ≤ 100 ∧ a3) : a0 < 1000 := lin [a0, a1, a2] (.c 1 (v 0) (a (k 310) (m 3 (v 1))) (.c 3 (v 1) (k 100) .n)) (a (v 0) (k 1)) (k 1000) rfl h0.1 h0.2.2.1
theorem o69 {a0 a1 : Nat} (h0 : a1 < a0) : a0 + 1 - (a1 + 1) < a0 + 1 - a1 := lin [a0, a1, ((a0 + 1) - (a1 + 1)), ((a0 + 1) - a1)] (.c 1 (a (v 0) (k 1)) (a (v 3) (v 1)) (.c 1 (a (v 2) (a (v 1) (k 1))) (a (v 0) (k 1)) .n)) (a (v 2) (k 1)) (v 3) rfl (sA (a0 + 1) a1) (Nat.le_of_eq (Nat.sub_add_cancel (lin [a0, a1, ((a0 + 1) - (a1 + 1)), ((a0 + 1) - a1)] (.c 1 (a (v 1) (k 1)) (v 0) .n) (a (v 1) (k 1)) (a (v 0) (k 1)) rfl h0)))
theorem o70 {a0 a1 : Nat} (h0 : a1 < a0) : (0 : Int) < (↑a0 : Int) - (↑a1 : Int) := Int.sub_pos_of_lt (Int.ofNat_lt.mpr h0)
theorem o71 {a0 a1 : Nat}  : (↑a0 : Int) - ((↑a1 : Int) + (1 : Int)) = (↑a0 : Int) - (↑a1 : Int) - (1 : Int) := (Int.sub_sub _ _ _).symm
theorem o72 {a0 : Nat}  : (↑a0 : Int) - (↑a0 : Int) ≤ (0 : Int) := Int.le_of_eq (Int.sub_self _)
theorem o73 {a0 : Int}  : a0 + (↑(0 : Nat) : Int) * (1 : Int) = a0 := Int.add_zero a0
theorem o74 {a0 : Int}  : a0 - (↑(0 : Nat) : Int) = a0 := Int.sub_zero a0
theorem o76 {a0 a1 : Nat} (h0 : a0 ≤ a1 + 1) : a0 ≤ a1 + 1 := lin [a0, a1] (.c 1 (v 0) (a (v 1) (k 1)) .n) (v 0) (a (v 1) (k 1)) rfl h0
theorem o77 {a0 a1 : Nat} (h0 : a0 ≤ a1 + 1) (h1 : a1 ≤ 900) : a0 ≤ 16777216 + 1 := lin [a0, a1] (.c 1 (v 0) (a (v 1) (k 1)) (.c 1 (v 1) (k 900) .n)) (v 0) (a (k 16777216) (k 1)) rfl h0 h1
theorem o78 {a0 a1 : Nat} (h0 : a0 < a1) : a0 + 1 - a1 = 0 := Nat.le_antisymm (lin [a0, a1, ((a0 + 1) - a1)] (.c 1 (v 2) (k 0) .n) (v 2) (k 0) rfl (Nat.le_of_eq (Nat.sub_eq_zero_of_le (lin [a0, a1, ((a0 + 1) - a1)] (.c 1 (a (v 0) (k 1)) (v 1) .n) (a (v 0) (k 1)) (v 1) rfl h0)))) (lin [a0, a1, ((a0 + 1) - a1)] .n (k 0) (v 2) rfl)
theorem o79 {a0 : Nat} {a1 : Int} {a2 : Nat} (h0 : a2 = a0 - (1 : Nat) - a1.toNat) (h1 : a2 < (1000 : Nat)) : ¬a0 - (1 : Nat) - a1.toNat ≥ (16777216 : Nat) := by lia
theorem o80 {a0 a1 a2 : Nat} (h0 : a0 ≤ 310 + 3 * a2) (h1 : a1 ≤ 1) : a0 + a1 ≤ 310 + 3 * (a2 + 1) := lin [a0, a1, a2] (.c 1 (v 0) (a (k 310) (m 3 (v 2))) (.c 1 (v 1) (k 1) .n)) (a (v 0) (v 1)) (a (k 310) (m 3 (a (v 2) (k 1)))) rfl h0 h1
theorem o81 {a0 a1 a2 : Nat} (h0 : a0 ≤ 100 + 20 * a2) (h1 : a1 ≤ 10) : a0 + a1 ≤ 100 + 20 * (a2 + 1) := lin [a0, a1, a2] (.c 1 (v 0) (a (k 100) (m 20 (v 2))) (.c 1 (v 1) (k 10) .n)) (a (v 0) (v 1)) (a (k 100) (m 20 (a (v 2) (k 1)))) rfl h0 h1
theorem o83 {a0 a1 a2 : Nat} (h0 : a0 + (a2 + 1) < a1) : a0 < a1 := lin [a0, a1, a2] (.c 1 (a (a (v 0) (a (v 2) (k 1))) (k 1)) (v 1) .n) (a (v 0) (k 1)) (v 1) rfl h0
theorem o84 {a0 a1 a2 : Nat} (h0 : a0 + (a1 + 1) < a2) : a0 + 1 + a1 < a2 := lin [a0, a1, a2] (.c 1 (a (a (v 0) (a (v 1) (k 1))) (k 1)) (v 2) .n) (a (a (a (v 0) (k 1)) (v 1)) (k 1)) (v 2) rfl h0
theorem o85 {a0 a1 a2 : Nat} (h0 : a0 + (a1 + 1 + 1) < a2) : a0 + 1 + a1 < a2 := lin [a0, a1, a2] (.c 1 (a (a (v 0) (a (a (v 1) (k 1)) (k 1))) (k 1)) (v 2) .n) (a (a (a (v 0) (k 1)) (v 1)) (k 1)) (v 2) rfl h0
theorem o86 {a0 a1 a2 : Nat} (h0 : a0 + a2 < a1) : a0 < a1 := lin [a0, a1, a2] (.c 1 (a (a (v 0) (v 2)) (k 1)) (v 1) .n) (a (v 0) (k 1)) (v 1) rfl h0
theorem o87 {a0 a1 a2 a3 : Nat} (h0 : a0 + max a1 a3 < a2) : a0 + a1 < a2 := lin [a0, a1, a2, a3, (max a1 a3)] (.c 1 (a (a (v 0) (v 4)) (k 1)) (v 2) (.c 1 (v 1) (v 4) .n)) (a (a (v 0) (v 1)) (k 1)) (v 2) rfl h0 (Nat.le_max_left a1 a3)
theorem o88 {a0 a1 a2 a3 : Nat} (h0 : a0 + max a3 a1 < a2) : a0 + a1 < a2 := lin [a0, a1, a2, a3, (max a3 a1)] (.c 1 (a (a (v 0) (v 4)) (k 1)) (v 2) (.c 1 (v 1) (v 4) .n)) (a (a (v 0) (v 1)) (k 1)) (v 2) rfl h0 (Nat.le_max_right a3 a1)
theorem o89 {a0 a1 a2 : Nat} (h0 : a2 + 1 ≤ a1 + 1) (h1 : a0 ≤ a2) : a0 ≤ a1 := lin [a0, a1, a2] (.c 1 (a (v 2) (k 1)) (a (v 1) (k 1)) (.c 1 (v 0) (v 2) .n)) (v 0) (v 1) rfl h0 h1
theorem o90 {a0 a1 a2 : Nat} {a3 : Prop} (h0 : a1 ≤ 310 + 3 * a2 ∧ a0 ≤ 100 + 20 * a2 ∧ a2 ≤ 100 ∧ a3) : a0 ≤ 2100 ∧ a1 ≤ 610 := ⟨lin [a0, a1, a2] (.c 1 (v 0) (a (k 100) (m 20 (v 2))) (.c 20 (v 2) (k 100) .n)) (v 0) (k 2100) rfl h0.2.1 h0.2.2.1, lin [a0, a1, a2] (.c 1 (v 1) (a (k 310) (m 3 (v 2))) (.c 3 (v 2) (k 100) .n)) (v 1) (k 610) rfl h0.1 h0.2.2.1⟩
theorem o92   : (0 : Nat) ≤ (1000 : Nat) := lin [] .n (k 0) (k 1000) rfl
theorem o93 {a0 a1 a2 : Nat} (h0 : a0 ≤ 2100 ∧ a2 ≤ 610) (h1 : a1 = 9900) : a0 < a1 := lin [a0, a1, a2] (.c 1 (v 0) (k 2100) (.c 1 (k 9900) (v 1) .n)) (a (v 0) (k 1)) (v 1) rfl h0.1 (Nat.le_of_eq h1.symm)
theorem o94 {a0 a1 a2 a3 : Nat} (h0 : a0 ≤ 2100 ∧ a3 ≤ 610) (h1 : a2 = 9900) (h2 : a1 ≤ 1000) : a0 + 1 + a1 < a2 := lin [a0, a1, a2, a3] (.c 1 (v 0) (k 2100) (.c 1 (k 9900) (v 2) (.c 1 (v 1) (k 1000) .n))) (a (a (a (v 0) (k 1)) (v 1)) (k 1)) (v 2) rfl h0.1 (Nat.le_of_eq h1.symm) h2
theorem o95   : (-1 : Int) < (0 : Int) := by decide
theorem o96 {a0 a1 : Nat} (h0 : a0 = a1) (h1 : a1 - (1 : Nat) < a1) : (1 : Int) ≤ (↑a0 : Int) := by lia
theorem o97 {a0 a1 : Nat} (h0 : a0 = a1) : ((-1 : Int) + (↑a0 : Int)).toNat = a1 - (1 : Nat) := by lia
theorem o98 {a0 : Int} (h0 : (0 : Int) ≤ a0) : ¬a0 < (0 : Int) := Int.not_lt.mpr h0
theorem o99 {a0 : Int} {a1 : Nat} (h0 : (0 : Int) ≤ a0) (h1 : a0.toNat < a1) : (0 : Int) ≤ a0 ∧ a0 < (↑a1 : Int) := ⟨h0, (Int.toNat_lt h0).mp h1⟩
theorem o100 {a0 : Nat} (h0 : a0 ≤ 16000000) : a0 ≤ 16777216 := lin [a0] (.c 1 (v 0) (k 16000000) .n) (v 0) (k 16777216) rfl h0
theorem o101 {a0 : Nat} (h0 : a0 < 16000000) : a0 ≤ 16777215 := lin [a0] (.c 1 (a (v 0) (k 1)) (k 16000000) .n) (v 0) (k 16777215) rfl h0
theorem o102 {a0 a1 a2 : Nat} (h0 : a2 ≤ a1) (h1 : a0 < a2 + (a1 - a2)) : a0 < a1 := lin [a0, a1, a2, (a1 - a2)] (.c 1 (a (v 0) (k 1)) (a (v 2) (v 3)) (.c 1 (a (v 3) (v 2)) (v 1) .n)) (a (v 0) (k 1)) (v 1) rfl h1 (Nat.le_of_eq (Nat.sub_add_cancel (lin [a0, a1, a2, (a1 - a2)] (.c 1 (v 2) (v 1) .n) (v 2) (v 1) rfl h0)))
theorem o103 {a0 a1 a2 : Nat} (h0 : a0 ≤ a1) : a0 + (a1 - a0) - (a2 + 1) = a1 - (a2 + 1) := congrArg (· - (a2 + 1)) (Nat.add_sub_cancel' h0)
theorem o104 {a0 a1 : Nat} (h0 : a0 ≥ a1) (h1 : a0 < a1 + 1) : a0 = a1 := Nat.le_antisymm (lin [a0, a1] (.c 1 (a (v 0) (k 1)) (a (v 1) (k 1)) .n) (v 0) (v 1) rfl h1) (lin [a0, a1] (.c 1 (v 1) (v 0) .n) (v 1) (v 0) rfl h0)
theorem o105 {a0 a1 a2 : Nat} (h0 : a0 < a2) : a0 < a1 + (a2 - a1) := lin [a0, a1, a2, (a2 - a1)] (.c 1 (a (v 0) (k 1)) (v 2) (.c 1 (v 2) (a (v 3) (v 1)) .n)) (a (v 0) (k 1)) (a (v 1) (v 3)) rfl h0 (sA a2 a1)
theorem o106 {a0 a1 a2 : Nat} (h0 : a2 ≤ a1) (h1 : a0 < a2) : a0 < a1 := lin [a0, a1, a2] (.c 1 (v 2) (v 1) (.c 1 (a (v 0) (k 1)) (v 2) .n)) (a (v 0) (k 1)) (v 1) rfl h0 h1
theorem o108 {a0 a1 : Nat} (h0 : a0 < a1) : ¬a0 = a1 := Nat.ne_of_lt (lin [a0, a1] (.c 1 (a (v 0) (k 1)) (v 1) .n) (a (v 0) (k 1)) (v 1) rfl h0)
theorem o109 {a0 a1 a2 : Nat} (h0 : a2 = a1) (h1 : a0 < a2) : a0 < a1 := lin [a0, a1, a2] (.c 1 (v 2) (v 1) (.c 1 (a (v 0) (k 1)) (v 2) .n)) (a (v 0) (k 1)) (v 1) rfl (Nat.le_of_eq h0) h1
theorem o110 {a0 a1 : Nat} (h0 : a0 + 9 < a1) : a0 + 8 < a1 := lin [a0, a1] (.c 1 (a (a (v 0) (k 9)) (k 1)) (v 1) .n) (a (a (v 0) (k 8)) (k 1)) (v 1) rfl h0
theorem o111 {a0 a1 a2 a3 : Nat} (h0 : a2 = a1) (h1 : a3 < a2) (h2 : a0 < a3) : a0 < a1 := lin [a0, a1, a2, a3] (.c 1 (v 2) (v 1) (.c 1 (a (v 3) (k 1)) (v 2) (.c 1 (a (v 0) (k 1)) (v 3) .n))) (a (v 0) (k 1)) (v 1) rfl (Nat.le_of_eq h0) h1 h2
theorem o112 {a0 a1 a2 : Nat} (h0 : a1 ≤ 8) (h1 : a0 + 9 < a2) : a0 + a1 < a2 := lin [a0, a1, a2] (.c 1 (v 1) (k 8) (.c 1 (a (a (v 0) (k 9)) (k 1)) (v 2) .n)) (a (a (v 0) (v 1)) (k 1)) (v 2) rfl h0 h1
theorem o113 {a0 a1 a2 : Nat} (h0 : a0 = a2) (h1 : a2 ≤ a1) : a0 ≤ a1 := lin [a0, a1, a2] (.c 1 (v 0) (v 2) (.c 1 (v 2) (v 1) .n)) (v 0) (v 1) rfl (Nat.le_of_eq h0) h1
theorem o115 {a0 : Int} (h0 : (0 : Int) ≤ a0 ∧ a0 < (7 : Int)) : a0 = (0 : Int) ∨ a0 = (1 : Int) ∨ a0 = (2 : Int) ∨ a0 = (3 : Int) ∨ a0 = (4 : Int) ∨ a0 = (5 : Int) ∨ a0 = (6 : Int) := by lia
theorem o116 {a0 a1 a2 a3 : Nat} (h0 : a3 ≤ a1) (h1 : a0 - a3 < a2 + 1) (h2 : a1 < a0) : a0 - (a1 + 1) < a2 := lin [a0, a1, a2, a3, (a0 - a3), (a0 - (a1 + 1))] (.c 1 (v 3) (v 1) (.c 1 (a (v 4) (k 1)) (a (v 2) (k 1)) (.c 1 (v 0) (a (v 4) (v 3)) (.c 1 (a (v 5) (a (v 1) (k 1))) (v 0) .n)))) (a (v 5) (k 1)) (v 2) rfl h0 h1 (sA a0 a3) (Nat.le_of_eq (Nat.sub_add_cancel (lin [a0, a1, a2, a3, (a0 - a3), (a0 - (a1 + 1))] (.c 1 (a (v 1) (k 1)) (v 0) .n) (a (v 1) (k 1)) (v 0) rfl h2)))
theorem o117 {a0 a1 a2 a3 : Nat} (h0 : a0 ≤ a3) (h1 : a3 < 10 * a2) : a0 - a1 < 10 * a2 := lin [a0, a1, a2, a3, (a0 - a1)] (.c 1 (v 0) (v 3) (.c 1 (a (v 3) (k 1)) (m 10 (v 2)) (.c 1 (v 4) (v 0) .n))) (a (v 4) (k 1)) (m 10 (v 2)) rfl h0 h1 (Nat.sub_le a0 a1)
theorem o118 {a0 : Nat} (h0 : 5 * a0 < 3 * 7) : a0 + 1 ≤ 5 := Nat.le_of_mul_le_mul_left (lin [a0] (.c 1 (a (m 5 (v 0)) (k 1)) (m 3 (k 7)) .n) (m 5 (a (v 0) (k 1))) (m 5 (k 5)) rfl h0) (by decide : 0 < 5)
theorem o119 {a0 a1 : Nat} (h0 : a1 = 7) (h1 : a0 + 1 ≤ 5) : a0 + 1 ≤ a1 := lin [a0, a1] (.c 1 (k 7) (v 1) (.c 1 (a (v 0) (k 1)) (k 5) .n)) (a (v 0) (k 1)) (v 1) rfl (Nat.le_of_eq h0.symm) h1
theorem o120 {a0 a1 : Nat} (h0 : a1 = 31) (h1 : a0 ≤ 7) : a0 + 1 ≤ a1 := lin [a0, a1] (.c 1 (k 31) (v 1) (.c 1 (v 0) (k 7) .n)) (a (v 0) (k 1)) (v 1) rfl (Nat.le_of_eq h0.symm) h1
theorem o121 {a0 : Nat} (h0 : a0 ≤ 7) : a0 + 1 ≤ 12 := lin [a0] (.c 1 (v 0) (k 7) .n) (a (v 0) (k 1)) (k 12) rfl h0
theorem o124 {a0 : Nat} (h0 : 7 * 3 ≤ a0 * 5) (h1 : a0 ≤ 5) : a0 = 5 := by lia
theorem o126 {a0 a1 : Nat} (h0 : a0 = a1) (h1 : a1 = 5) : a0 ≤ 18 := lin [a0, a1] (.c 1 (v 0) (v 1) (.c 1 (v 1) (k 5) .n)) (v 0) (k 18) rfl (Nat.le_of_eq h0) (Nat.le_of_eq h1)
theorem o127 {a0 : Nat} (h0 : a0 = 5) : 5 * a0 < 3 * 31 := lin [a0] (.c 10 (v 0) (k 5) .n) (a (m 5 (v 0)) (k 1)) (m 3 (k 31)) rfl (Nat.le_of_eq h0)
theorem o128 {a0 a1 : Nat} (h0 : 10 * a1 ≤ 460) (h1 : a0 < 10 * a1) : a0 - 0 < 100000 := lin [a0, a1, (a0 - 0)] (.c 1 (m 10 (v 1)) (k 460) (.c 1 (a (v 0) (k 1)) (m 10 (v 1)) (.c 1 (v 2) (v 0) .n))) (a (v 2) (k 1)) (k 100000) rfl h0 h1 (Nat.sub_le a0 0)
theorem o129 {a0 : Nat} (h0 : a0 ≤ 12) : a0 ≤ 16777216 := lin [a0] (.c 1 (v 0) (k 12) .n) (v 0) (k 16777216) rfl h0
theorem o130   : ¬(32 : Nat) > (16777216 : Nat) := Nat.not_lt_of_le (lin [] .n (k 32) (k 16777216) rfl)
theorem o131 {a0 : Nat}  : ¬(↑a0 : Int) < (0 : Int) := Int.not_lt.mpr (Int.natCast_nonneg _)
theorem o132 {a0 : Nat}  : (↑(a0 + (1 : Nat)) : Int) = (↑a0 : Int) + (1 : Int) := rfl
theorem o133 {a0 a1 : Nat} (h0 : a1 = a0) : a0 ≤ a1 := lin [a0, a1] (.c 1 (v 0) (v 1) .n) (v 0) (v 1) rfl (Nat.le_of_eq h0.symm)
theorem o136   : (0 : Nat) + (1 : Nat) + (1 : Nat) + ((0 : Nat) + (1 : Nat) + (1 : Nat) + (1 : Nat) + (1 : Nat)) + ((0 : Nat) + (1 : Nat) + (1 : Nat)) ≤ (16777216 : Nat) + (2 : Nat) := lin [] .n (a (a (a (a (k 0) (k 1)) (k 1)) (a (a (a (a (k 0) (k 1)) (k 1)) (k 1)) (k 1))) (a (a (k 0) (k 1)) (k 1))) (a (k 16777216) (k 2)) rfl
theorem o139 {a0 a1 : Nat} (h0 : a0 + 2000 < a1) : a0 + 1 + 9 < a1 := lin [a0, a1] (.c 1 (a (a (v 0) (k 2000)) (k 1)) (v 1) .n) (a (a (a (v 0) (k 1)) (k 9)) (k 1)) (v 1) rfl h0
theorem o140 {a0 a1 a2 : Nat} (h0 : a1 ≤ 8) (h1 : a0 + 2000 < a2) : a0 + 1 + a1 < a2 := lin [a0, a1, a2] (.c 1 (v 1) (k 8) (.c 1 (a (a (v 0) (k 2000)) (k 1)) (v 2) .n)) (a (a (a (v 0) (k 1)) (v 1)) (k 1)) (v 2) rfl h0 h1
theorem o141 {a0 a1 : Nat} (h0 : a0 + a1 ≤ 16000000) : a0 + a1 ≤ 16777216 := lin [a0, a1] (.c 1 (a (v 0) (v 1)) (k 16000000) .n) (a (v 0) (v 1)) (k 16777216) rfl h0
theorem o142 {a0 a1 a2 : Nat} (h0 : a2 + 1 ≤ a1) (h1 : a0 < a2) : a0 + 1 < a1 := lin [a0, a1, a2] (.c 1 (a (v 2) (k 1)) (v 1) (.c 1 (a (v 0) (k 1)) (v 2) .n)) (a (a (v 0) (k 1)) (k 1)) (v 1) rfl h0 h1
theorem o143 {a0 : Nat}  : (0 : Int) ≤ (0 : Int) + (↑a0 : Int) := by lia
theorem o144 {a0 : Nat}  : ((0 : Int) + (↑a0 : Int)).toNat = a0 := congrArg Int.toNat (Int.zero_add a0)
theorem o145   : (1 : Nat) ≤ (100 : Nat) := lin [] .n (k 1) (k 100) rfl
theorem o146 {a0 : Nat} (h0 : a0 ≤ 310) : a0 + 1 ≤ 310 + 3 * 1 := lin [a0] (.c 1 (v 0) (k 310) .n) (a (v 0) (k 1)) (a (k 310) (m 3 (k 1))) rfl h0
theorem o147 {a0 : Nat} (h0 : a0 ≤ 100) : a0 + 3 ≤ 100 + 20 * 1 := lin [a0] (.c 1 (v 0) (k 100) .n) (a (v 0) (k 3)) (a (k 100) (m 20 (k 1))) rfl h0
theorem o148 {a0 : Nat} (h0 : a0 ≤ 310) : a0 < 1000 := lin [a0] (.c 1 (v 0) (k 310) .n) (a (v 0) (k 1)) (k 1000) rfl h0
theorem o149 {a0 : Nat} (h0 : a0 < 90) : a0 < 100 := lin [a0] (.c 1 (a (v 0) (k 1)) (k 90) .n) (a (v 0) (k 1)) (k 100) rfl h0
theorem o150 {a0 : Nat} (h0 : a0 < 90) : a0 + 1 < 100 := lin [a0] (.c 1 (a (v 0) (k 1)) (k 90) .n) (a (a (v 0) (k 1)) (k 1)) (k 100) rfl h0
theorem o151 {a0 : Nat} (h0 : a0 < 1000) : a0 ≤ 16000000 := lin [a0] (.c 1 (a (v 0) (k 1)) (k 1000) .n) (v 0) (k 16000000) rfl h0
theorem o152 {a0 a1 a2 : Nat} (h0 : a0 ≤ a1) : a0 ≤ a1 + a2 := lin [a0, a1, a2] (.c 1 (v 0) (v 1) .n) (v 0) (a (v 1) (v 2)) rfl h0
theorem o154 {a0 a1 : Nat} (h0 : a0 = a1) (h1 : a1 ≤ 9) : a0 ≤ 9 := lin [a0, a1] (.c 1 (v 0) (v 1) (.c 1 (v 1) (k 9) .n)) (v 0) (k 9) rfl (Nat.le_of_eq h0) h1
theorem o155 {a0 : Nat} (h0 : a0 ≤ 700) : a0 < 1000 := lin [a0] (.c 1 (v 0) (k 700) .n) (a (v 0) (k 1)) (k 1000) rfl h0
theorem o156 {a0 a1 : Nat} {a2 : Prop} {a3 : Nat} (h0 : a0 ≤ 701 + 2 * a1 ∧ a2) (h1 : a3 ≤ 9) (h2 : a1 < a3) : a0 < 1000 := lin [a0, a1, a3] (.c 1 (v 0) (a (k 701) (m 2 (v 1))) (.c 2 (v 2) (k 9) (.c 2 (a (v 1) (k 1)) (v 2) .n))) (a (v 0) (k 1)) (k 1000) rfl h0.1 h1 h2
theorem o157 {a0 a1 a2 : Nat} (h0 : a0 ≤ 701 + 2 * a1 + 1) (h1 : a2 ≤ 9) (h2 : a1 < a2) : a0 ≤ 16000000 := lin [a0, a1, a2] (.c 1 (v 0) (a (a (k 701) (m 2 (v 1))) (k 1)) (.c 2 (v 2) (k 9) (.c 2 (a (v 1) (k 1)) (v 2) .n))) (v 0) (k 16000000) rfl h0 h1 h2
theorem o158 {a0 a1 : Nat} (h0 : a0 < 0 + a1) : a0 < a1 := lin [a0, a1] (.c 1 (a (v 0) (k 1)) (a (k 0) (v 1)) .n) (a (v 0) (k 1)) (v 1) rfl h0
theorem o160 {a0 a1 a2 : Nat} (h0 : a0 + a1 + a2 ≤ 3000) : a0 < 4000 := lin [a0, a1, a2] (.c 1 (a (a (v 0) (v 1)) (v 2)) (k 3000) .n) (a (v 0) (k 1)) (k 4000) rfl h0
theorem o161 {a0 a1 a2 a3 : Nat} (h0 : a0 + (a2 + 1) ≤ a3) : a0 + (a1 + a2) + 1 ≤ a3 + a1 := lin [a0, a1, a2, a3] (.c 1 (a (v 0) (a (v 2) (k 1))) (v 3) .n) (a (a (v 0) (a (v 1) (v 2))) (k 1)) (a (v 3) (v 1)) rfl h0
theorem o163 {a0 a1 a2 : Nat} (h0 : a2 < a1) : a0 + (a1 - (a2 + 1)) + 1 = a0 + (a1 - a2) := Nat.le_antisymm (lin [a0, a1, a2, (a1 - (a2 + 1)), (a1 - a2)] (.c 1 (v 1) (a (v 4) (v 2)) (.c 1 (a (v 3) (a (v 2) (k 1))) (v 1) .n)) (a (a (v 0) (v 3)) (k 1)) (a (v 0) (v 4)) rfl (sA a1 a2) (Nat.le_of_eq (Nat.sub_add_cancel (lin [a0, a1, a2, (a1 - (a2 + 1)), (a1 - a2)] (.c 1 (a (v 2) (k 1)) (v 1) .n) (a (v 2) (k 1)) (v 1) rfl h0)))) (lin [a0, a1, a2, (a1 - (a2 + 1)), (a1 - a2)] (.c 1 (v 1) (a (v 3) (a (v 2) (k 1))) (.c 1 (a (v 4) (v 2)) (v 1) .n)) (a (v 0) (v 4)) (a (a (v 0) (v 3)) (k 1)) rfl (sA a1 (a2 + 1)) (Nat.le_of_eq (Nat.sub_add_cancel (lin [a0, a1, a2, (a1 - (a2 + 1)), (a1 - a2)] (.c 1 (a (v 2) (k 1)) (v 1) .n) (v 2) (v 1) rfl h0))))
theorem o164 {a0 a1 a2 a3 : Nat} (h0 : a2 + 1 = a3) (h1 : a0 + a1 + a3 ≤ 3000) : a0 + a1 + a2 ≤ 3000 := lin [a0, a1, a2, a3] (.c 1 (a (v 2) (k 1)) (v 3) (.c 1 (a (a (v 0) (v 1)) (v 3)) (k 3000) .n)) (a (a (v 0) (v 1)) (v 2)) (k 3000) rfl (Nat.le_of_eq h0) h1
theorem o165 {a0 a1 a2 : Nat} (h0 : a1 + 1 = a2) : a0 + a1 < a0 + a2 := lin [a0, a1, a2] (.c 1 (a (v 1) (k 1)) (v 2) .n) (a (a (v 0) (v 1)) (k 1)) (a (v 0) (v 2)) rfl (Nat.le_of_eq h0)
theorem o166 {a0 a1 a2 a3 : Nat} (h0 : a0 + a1 + a3 ≤ 3000) (h1 : a2 ≤ a3) : a0 + a1 + a2 ≤ 3000 := lin [a0, a1, a2, a3] (.c 1 (a (a (v 0) (v 1)) (v 3)) (k 3000) (.c 1 (v 2) (v 3) .n)) (a (a (v 0) (v 1)) (v 2)) (k 3000) rfl h0 h1
theorem o167 {a0 : Nat} (h0 : a0 ≤ 3000) : 0 + a0 + 0 ≤ 3000 := lin [a0] (.c 1 (v 0) (k 3000) .n) (a (a (k 0) (v 0)) (k 0)) (k 3000) rfl h0
theorem o168 {a0 a1 a2 : Nat} (h0 : a0 ≤ min a1 a2) (h1 : a2 ≤ 1000) : a0 ≤ 16777216 := lin [a0, a1, a2, (min a1 a2)] (.c 1 (v 0) (v 3) (.c 1 (v 2) (k 1000) (.c 1 (v 3) (v 2) .n))) (v 0) (k 16777216) rfl h0 h1 (Nat.min_le_right a1 a2)
theorem o169 {a0 : Nat}  : (↑a0 : Int) ≥ (0 : Int) := Int.natCast_nonneg a0
theorem o170 {a0 : Nat} (h0 : 1 ≤ a0) : ¬a0 = 0 := Nat.ne_of_gt (lin [a0] (.c 1 (k 1) (v 0) .n) (a (k 0) (k 1)) (v 0) rfl h0)
theorem o171 {a0 a1 : Nat} (h0 : a1 = a0 + 4 ∨ a1 = a0 + 3 ∨ a1 = a0 ∨ a1 = a0 + 1) : a0 ≤ a1 ∧ a1 < a0 + 5 := by lia
theorem o172 {a0 : Nat} (h0 : a0 + 0 < 95) : a0 < 100 := lin [a0] (.c 1 (a (a (v 0) (k 0)) (k 1)) (k 95) .n) (a (v 0) (k 1)) (k 100) rfl h0
theorem o173 {a0 a1 : Nat} (h0 : a0 + (a1 + 1) < 95) : a0 < 100 := lin [a0, a1] (.c 1 (a (a (v 0) (a (v 1) (k 1))) (k 1)) (k 95) .n) (a (v 0) (k 1)) (k 100) rfl h0
theorem o174 {a0 a1 : Nat} (h0 : a0 + (a1 + 1) < 95) : a0 + 1 + a1 < 95 := lin [a0, a1] (.c 1 (a (a (v 0) (a (v 1) (k 1))) (k 1)) (k 95) .n) (a (a (a (v 0) (k 1)) (v 1)) (k 1)) (k 95) rfl h0
theorem o175 {a0 a1 : Nat} (h0 : a0 < a1) : a0 = min a0 a1 := (Nat.min_eq_left (Nat.le_of_lt h0)).symm
theorem o176 {a0 a1 : Nat} (h0 : a1 ≤ 900) (h1 : a0 < a1) : a0 + 1 ≤ 16000000 := lin [a0, a1] (.c 1 (v 1) (k 900) (.c 1 (a (v 0) (k 1)) (v 1) .n)) (a (v 0) (k 1)) (k 16000000) rfl h0 h1
theorem o179 {a0 a1 a2 : Nat} (h0 : a2 ≤ 10) (h1 : a0 ≤ 2000) (h2 : a1 ≤ a2) : a0 + a1 ≤ 16777216 := lin [a0, a1, a2] (.c 1 (v 2) (k 10) (.c 1 (v 0) (k 2000) (.c 1 (v 1) (v 2) .n))) (a (v 0) (v 1)) (k 16777216) rfl h0 h1 h2
theorem o180 {a0 a1 : Nat} (h0 : a1 ≤ 5000) (h1 : a0 ≤ a1) : a0 ≤ 16777216 := lin [a0, a1] (.c 1 (v 1) (k 5000) (.c 1 (v 0) (v 1) .n)) (v 0) (k 16777216) rfl h0 h1
theorem o181 {a0 : Nat}  : max (0 : Int) (min (1 : Int) ((↑a0 : Int) + (1 : Int))) = (1 : Int) := by lia
theorem o182 {a0 : Nat}  : ((1 : Int) + (1 : Int) * (↑a0 : Int)).toNat = a0 + (1 : Nat) := by lia
theorem o183 {a0 : Nat} (h0 : a0 ≤ 7) : a0 ≤ 16777216 := lin [a0] (.c 1 (v 0) (k 7) .n) (v 0) (k 16777216) rfl h0
theorem o184 {a0 a1 a2 : Nat} (h0 : a1 ≤ 200) (h1 : a2 ≤ a1) (h2 : a0 ≤ a2) : a0 ≤ 16777216 := lin [a0, a1, a2] (.c 1 (v 1) (k 200) (.c 1 (v 2) (v 1) (.c 1 (v 0) (v 2) .n))) (v 0) (k 16777216) rfl h0 h1 h2
theorem o187 {a0 : Nat} (h0 : a0 ≤ 10) : a0 ≤ 16000000 := lin [a0] (.c 1 (v 0) (k 10) .n) (v 0) (k 16000000) rfl h0
theorem o188 {a0 : Nat} (h0 : a0 ≤ 10) : a0 - 1 ≤ 10 := lin [a0, (a0 - 1)] (.c 1 (v 0) (k 10) (.c 1 (v 1) (v 0) .n)) (v 1) (k 10) rfl h0 (Nat.sub_le a0 1)
theorem o189 {a0 a1 a2 a3 : Nat} (h0 : a2 ≤ 10) (h1 : a3 ≤ a2) (h2 : a1 ≤ a3) (h3 : a0 ≤ 2000) : a0 + a1 ≤ 16777216 := lin [a0, a1, a2, a3] (.c 1 (v 2) (k 10) (.c 1 (v 3) (v 2) (.c 1 (v 1) (v 3) (.c 1 (v 0) (k 2000) .n)))) (a (v 0) (v 1)) (k 16777216) rfl h0 h1 h2 h3
theorem o191 {a0 a1 : Nat}  : min a0 a1 ≤ a1 := lin [a0, a1, (min a0 a1)] (.c 1 (v 2) (v 1) .n) (v 2) (v 1) rfl (Nat.min_le_right a0 a1)
theorem o193 {a0 : Nat} (h0 : a0 ≤ 2000) : a0 ≤ 5000 := lin [a0] (.c 1 (v 0) (k 2000) .n) (v 0) (k 5000) rfl h0
theorem o194 {a0 : Nat} (h0 : a0 ≤ 7) : a0 < 64 := lin [a0] (.c 1 (v 0) (k 7) .n) (a (v 0) (k 1)) (k 64) rfl h0
theorem o197 {a0 : Nat} (h0 : a0 ≤ 7) : a0 ≤ 16000000 := lin [a0] (.c 1 (v 0) (k 7) .n) (v 0) (k 16000000) rfl h0
theorem o198 {a0 : Nat} (h0 : ¬a0 = (2 : Nat)) : ¬(↑a0 : Int) = (2 : Int) := fun e => h0 (Int.ofNat_inj.mp e)
theorem o201 {a0 : Nat}  : (0 : Int) ≤ (↑a0 : Int) := Int.natCast_nonneg a0
theorem o202 {a0 : Nat} (h0 : a0 ≤ 7) : 1 + a0 ≤ 16000000 := lin [a0] (.c 1 (v 0) (k 7) .n) (a (k 1) (v 0)) (k 16000000) rfl h0
theorem o203 {a0 : Nat} (h0 : a0 ≤ 10) : a0 ≤ 5000 := lin [a0] (.c 1 (v 0) (k 10) .n) (v 0) (k 5000) rfl h0
theorem o204 {a0 : Nat} (h0 : a0 ≤ 10) : a0 ≤ 16777216 := lin [a0] (.c 1 (v 0) (k 10) .n) (v 0) (k 16777216) rfl h0
theorem o205 {a0 : Nat} (h0 : a0 ≤ 9) : a0 ≤ 9 := lin [a0] (.c 1 (v 0) (k 9) .n) (v 0) (k 9) rfl h0
theorem o206 {a0 : Nat} (h0 : a0 < 61) : a0 + 4 < 95 := lin [a0] (.c 1 (a (v 0) (k 1)) (k 61) .n) (a (a (v 0) (k 4)) (k 1)) (k 95) rfl h0
theorem o207 {a0 : Int} {a1 : Nat} {a2 : Int}  : a0 + ((↑a1 : Int) - (1 : Int) + a2) = a0 + ((↑a1 : Int) - (1 : Int)) + a2 := (Int.add_assoc a0 _ a2).symm
theorem o208 {a0 : Int} (h0 : (0 : Int) ≤ a0) : (↑a0.toNat : Int) = a0 := Int.toNat_of_nonneg h0
theorem o209 {a0 : Int} (h0 : a0 < (7 : Int)) : a0.toNat < (7 : Nat) := by lia
theorem o210 {a0 a1 : Nat} (h0 : (↑a0 : Int) = (↑a1 : Int)) : a0 = a1 := Int.ofNat_inj.mp h0
theorem o212 {a0 a1 : Nat} (h0 : a0 < a1) : (↑a0 : Int) < (↑a1 : Int) := Int.ofNat_lt.mpr h0
theorem o213 {a0 a1 a2 : Nat} (h0 : a0 < a2) (h1 : a0 < a1) : a0 < min a1 a2 := Nat.lt_min.mpr ⟨lin [a0, a1, a2, (min a1 a2)] (.c 1 (a (v 0) (k 1)) (v 1) .n) (a (v 0) (k 1)) (v 1) rfl h1, lin [a0, a1, a2, (min a1 a2)] (.c 1 (a (v 0) (k 1)) (v 2) .n) (a (v 0) (k 1)) (v 2) rfl h0⟩
theorem o214 {a0 a1 a2 : Nat} (h0 : a1 = a2) (h1 : a0 = a1 + 1) (h2 : a2 ≤ 7) : a0 ≤ 1000 := lin [a0, a1, a2] (.c 1 (v 1) (v 2) (.c 1 (v 0) (a (v 1) (k 1)) (.c 1 (v 2) (k 7) .n))) (v 0) (k 1000) rfl (Nat.le_of_eq h0) (Nat.le_of_eq h1) h2
theorem o215 {a0 a1 a2 a3 : Nat} (h0 : a2 = a1) (h1 : a3 = a2 + 1) (h2 : a0 < a3) : a0 < a1 + 1 := lin [a0, a1, a2, a3] (.c 1 (v 2) (v 1) (.c 1 (v 3) (a (v 2) (k 1)) (.c 1 (a (v 0) (k 1)) (v 3) .n))) (a (v 0) (k 1)) (a (v 1) (k 1)) rfl (Nat.le_of_eq h0) (Nat.le_of_eq h1) h2
theorem o217 {a0 a1 a2 : Nat} (h0 : a2 = a1 + 1) (h1 : a0 + 1 < a2) : a0 < a1 := lin [a0, a1, a2] (.c 1 (v 2) (a (v 1) (k 1)) (.c 1 (a (a (v 0) (k 1)) (k 1)) (v 2) .n)) (a (v 0) (k 1)) (v 1) rfl (Nat.le_of_eq h0) h1
theorem o218 {a0 a1 a2 a3 : Nat} (h0 : a2 = a1) (h1 : a3 = a2 + 1) (h2 : a0 + 1 < a3) : a0 < a1 := lin [a0, a1, a2, a3] (.c 1 (v 2) (v 1) (.c 1 (v 3) (a (v 2) (k 1)) (.c 1 (a (a (v 0) (k 1)) (k 1)) (v 3) .n))) (a (v 0) (k 1)) (v 1) rfl (Nat.le_of_eq h0) (Nat.le_of_eq h1) h2
theorem o219 {a0 a1 a2 a3 a4 : Nat} (h0 : a3 = a2) (h1 : a4 = a3 + 1) (h2 : a0 + 1 < a4) (h3 : a0 < a1) : a0 < min a1 a2 := Nat.lt_min.mpr ⟨lin [a0, a1, a2, a3, a4, (min a1 a2)] (.c 1 (a (v 0) (k 1)) (v 1) .n) (a (v 0) (k 1)) (v 1) rfl h3, lin [a0, a1, a2, a3, a4, (min a1 a2)] (.c 1 (v 3) (v 2) (.c 1 (v 4) (a (v 3) (k 1)) (.c 1 (a (a (v 0) (k 1)) (k 1)) (v 4) .n))) (a (v 0) (k 1)) (v 2) rfl (Nat.le_of_eq h0) (Nat.le_of_eq h1) h2⟩
theorem o220 {a0 : Nat} (h0 : a0 ≤ 7) : a0 ≤ 700 := lin [a0] (.c 1 (v 0) (k 7) .n) (v 0) (k 700) rfl h0
theorem o222 {a0 : Nat}  : 1 + a0 = a0 + 1 := Nat.le_antisymm (lin [a0] .n (a (k 1) (v 0)) (a (v 0) (k 1)) rfl) (lin [a0] .n (a (v 0) (k 1)) (a (k 1) (v 0)) rfl)
theorem o223 {a0 : Nat}  : 0 + a0 = a0 + 0 := Nat.le_antisymm (lin [a0] .n (a (k 0) (v 0)) (a (v 0) (k 0)) rfl) (lin [a0] .n (a (v 0) (k 0)) (a (k 0) (v 0)) rfl)
theorem o224 {a0 a1 a2 a3 : Nat}  : a0 + a1 + (a2 + a3) = a0 + a2 + (a1 + a3) := Nat.le_antisymm (lin [a0, a1, a2, a3] .n (a (a (v 0) (v 1)) (a (v 2) (v 3))) (a (a (v 0) (v 2)) (a (v 1) (v 3))) rfl) (lin [a0, a1, a2, a3] .n (a (a (v 0) (v 2)) (a (v 1) (v 3))) (a (a (v 0) (v 1)) (a (v 2) (v 3))) rfl)
theorem o230 {a0 : Nat} {a1 : Int} (h0 : (0 : Int) ≤ a1 ∧ a1 < (10 : Int)) (h1 : a0 = ((1 : Int) + a1).toNat) : a0 ≤ (10 : Nat) := by lia
theorem o231 {a0 : Nat} (h0 : (↑a0 : Int) < (10 : Int)) : a0 < (10 : Nat) := Int.ofNat_lt.mp h0
theorem o232 {a0 : Int} (h0 : (0 : Int) < a0) : a0 ≠ (0 : Int) := Int.ne_of_gt h0
theorem o233 {a0 : Nat} (h0 : a0 ≤ 20) : a0 < 21 := lin [a0] (.c 1 (v 0) (k 20) .n) (a (v 0) (k 1)) (k 21) rfl h0
theorem o234 {a0 : Int} (h0 : (0 : Int) ≤ a0 ∧ a0 < (10 : Int)) : (1 : Int) + a0 = (↑((1 : Int) + a0).toNat : Int) := by lia
theorem o235 {a0 : Int} (h0 : (0 : Int) ≤ a0 ∧ a0 < (10 : Int)) : ((1 : Int) + a0).toNat ≤ (1000 : Nat) := by lia
theorem o236 {a0 : Nat} {a1 : Int} (h0 : (0 : Int) ≤ a1 ∧ a1 < (10 : Int)) (h1 : a0 ≤ ((1 : Int) + a1).toNat) : a0 ≤ (16777216 : Nat) := by lia
theorem o237 {a0 : Nat}  : 1 ≤ a0 + 1 := lin [a0] .n (k 1) (a (v 0) (k 1)) rfl
theorem o238 {a0 : Nat} {a1 : Int} (h0 : (0 : Int) ≤ a1 ∧ a1 < (10 : Int)) (h1 : a0 < ((1 : Int) + a1).toNat) : a0 + (1 : Nat) ≤ (20 : Nat) := by lia
theorem o239 {a0 : Nat} (h0 : a0 ≤ 69) : a0 ≤ 69 := lin [a0] (.c 1 (v 0) (k 69) .n) (v 0) (k 69) rfl h0
theorem o240 {a0 : Nat} (h0 : a0 ≤ (100 : Nat)) : (↑a0 : Int) ≤ (100000 : Int) := Int.ofNat_le.mpr (Nat.le_trans h0 (Nat.le_of_ble_eq_true rfl))
theorem o241 {a0 : Int} (h0 : a0 < (2 : Int)) : a0.toNat < (2 : Nat) := (Int.toNat_lt' (by decide)).mpr h0
theorem o242 {a0 : Int} (h0 : (0 : Int) ≤ a0) : a0 = (↑a0.toNat : Int) := (Int.toNat_of_nonneg h0).symm
theorem o243 {a0 : Nat} (h0 : a0 ≤ 70) : a0 ≤ 16000000 := lin [a0] (.c 1 (v 0) (k 70) .n) (v 0) (k 16000000) rfl h0
theorem o244 {a0 : Nat} (h0 : a0 < 2) : a0 < 1000 := lin [a0] (.c 1 (a (v 0) (k 1)) (k 2) .n) (a (v 0) (k 1)) (k 1000) rfl h0
theorem o245 {a0 : Nat} (h0 : a0 ≤ 7) : a0 ≤ 900 := lin [a0] (.c 1 (v 0) (k 7) .n) (v 0) (k 900) rfl h0
theorem o246 {a0 : Nat} (h0 : a0 < 40) : a0 + 4 < 95 := lin [a0] (.c 1 (a (v 0) (k 1)) (k 40) .n) (a (a (v 0) (k 4)) (k 1)) (k 95) rfl h0
theorem o248 {a0 a1 a2 a3 : Nat} (h0 : a1 = a3) (h1 : a0 < a3 + a2) (h2 : ¬a0 < a1) : a0 - a1 < a2 := lin [a0, a1, a2, a3, (a0 - a1)] (.c 1 (v 3) (v 1) (.c 1 (a (v 0) (k 1)) (a (v 3) (v 2)) (.c 1 (a (v 4) (v 1)) (v 0) .n))) (a (v 4) (k 1)) (v 2) rfl (Nat.le_of_eq h0.symm) h1 (Nat.le_of_eq (Nat.sub_add_cancel (lin [a0, a1, a2, a3, (a0 - a1)] (.c 1 (v 1) (v 0) .n) (v 1) (v 0) rfl (Nat.le_of_not_lt h2))))
theorem o249 {a0 a1 : Nat} (h0 : a0 ≤ 70) (h1 : a1 ≤ 70) : a0 + a1 ≤ 200 := lin [a0, a1] (.c 1 (v 0) (k 70) (.c 1 (v 1) (k 70) .n)) (a (v 0) (v 1)) (k 200) rfl h0 h1
theorem o250 {a0 a1 : Nat} (h0 : a0 ≤ 70) (h1 : a1 ≤ 70) : a0 + a1 ≤ 16000000 := lin [a0, a1] (.c 1 (v 0) (k 70) (.c 1 (v 1) (k 70) .n)) (a (v 0) (v 1)) (k 16000000) rfl h0 h1
theorem o251 {a0 : Nat} (h0 : a0 ≤ 7) : a0 ≤ 1000 := lin [a0] (.c 1 (v 0) (k 7) .n) (v 0) (k 1000) rfl h0
theorem o252 {a0 : Nat} (h0 : a0 ≤ 7) : a0 < 1000 := lin [a0] (.c 1 (v 0) (k 7) .n) (a (v 0) (k 1)) (k 1000) rfl h0
theorem o256 {a0 a1 a2 a3 a4 a5 a6 : Nat}  : a0 + (a1 + a2 + a3 + a4 + a5) + a6 = a0 + (a1 + a2 + a3 + a4 + (a5 + a6)) := Nat.le_antisymm (lin [a0, a1, a2, a3, a4, a5, a6] .n (a (a (v 0) (a (a (a (a (v 1) (v 2)) (v 3)) (v 4)) (v 5))) (v 6)) (a (v 0) (a (a (a (a (v 1) (v 2)) (v 3)) (v 4)) (a (v 5) (v 6)))) rfl) (lin [a0, a1, a2, a3, a4, a5, a6] .n (a (v 0) (a (a (a (a (v 1) (v 2)) (v 3)) (v 4)) (a (v 5) (v 6)))) (a (a (v 0) (a (a (a (a (v 1) (v 2)) (v 3)) (v 4)) (v 5))) (v 6)) rfl)
theorem o257 {a0 a1 a2 a3 a4 a5 a6 : Nat}  : a0 + (a1 + a2) + a3 + a4 + a5 + a6 = a1 + (a0 + (a6 + a3 + a2 + a5) + a4) := Nat.le_antisymm (lin [a0, a1, a2, a3, a4, a5, a6] .n (a (a (a (a (a (v 0) (a (v 1) (v 2))) (v 3)) (v 4)) (v 5)) (v 6)) (a (v 1) (a (a (v 0) (a (a (a (v 6) (v 3)) (v 2)) (v 5))) (v 4))) rfl) (lin [a0, a1, a2, a3, a4, a5, a6] .n (a (v 1) (a (a (v 0) (a (a (a (v 6) (v 3)) (v 2)) (v 5))) (v 4))) (a (a (a (a (a (v 0) (a (v 1) (v 2))) (v 3)) (v 4)) (v 5)) (v 6)) rfl)
theorem o258 {a0 : Nat} (h0 : a0 ≤ 63) : a0 ≤ 15999999 := lin [a0] (.c 1 (v 0) (k 63) .n) (v 0) (k 15999999) rfl h0
theorem o259 {a0 a1 a2 a3 : Nat} (h0 : a1 = a2) (h1 : a0 ≤ a1) (h2 : a3 ≤ 63) (h3 : a2 < a3 + 1) : a0 ≤ 69 := lin [a0, a1, a2, a3] (.c 1 (v 1) (v 2) (.c 1 (v 0) (v 1) (.c 1 (v 3) (k 63) (.c 1 (a (v 2) (k 1)) (a (v 3) (k 1)) .n)))) (v 0) (k 69) rfl (Nat.le_of_eq h0) h1 h2 h3
theorem o260 {a0 a1 : Nat} (h0 : a1 ≤ 63) (h1 : a0 < a1 + 1) : a0 ≤ 100 := lin [a0, a1] (.c 1 (v 1) (k 63) (.c 1 (a (v 0) (k 1)) (a (v 1) (k 1)) .n)) (v 0) (k 100) rfl h0 h1
theorem o261 {a0 a1 : Nat} (h0 : a0 + 1 ≤ a1) : a0 ≠ a1 := Nat.ne_of_lt (lin [a0, a1] (.c 1 (a (v 0) (k 1)) (v 1) .n) (a (v 0) (k 1)) (v 1) rfl h0)
end
end Mine
namespace Mine
section
open Lx
theorem o301 {a0 a1 a2 a3 : Nat} (h0 : a2 ≤ a1 ∧ a1 ≤ a2 + 9) (h1 : a0 ≤ 10 * a3) : a0 + (a1 - a2) + 1 ≤ 10 * (a3 + 1) := lin [a0, a1, a2, a3, (a1 - a2)] (.c 1 (v 1) (a (v 2) (k 9)) (.c 1 (v 0) (m 10 (v 3)) (.c 1 (a (v 4) (v 2)) (v 1) .n))) (a (a (v 0) (v 4)) (k 1)) (m 10 (a (v 3) (k 1))) rfl h0.2 h1 (Nat.le_of_eq (Nat.sub_add_cancel (lin [a0, a1, a2, a3, (a1 - a2)] (.c 1 (v 2) (v 1) .n) (v 2) (v 1) rfl h0.1)))
theorem o302 {a0 : Int}  : (a0 % (2 : Int) ^ (64 : Nat)).toNat < (2 : Nat) ^ (64 : Nat) := by lia
theorem o303 {a0 a1 a2 : Nat} (h0 : a0 + a1 = a2) (h1 : a1 > 0) : a0 + 1 + (a1 - 1) = a2 := Nat.le_antisymm (lin [a0, a1, a2, (a1 - 1)] (.c 1 (a (v 0) (v 1)) (v 2) (.c 1 (a (v 3) (k 1)) (v 1) .n)) (a (a (v 0) (k 1)) (v 3)) (v 2) rfl (Nat.le_of_eq h0) (Nat.le_of_eq (Nat.sub_add_cancel (lin [a0, a1, a2, (a1 - 1)] (.c 1 (a (k 0) (k 1)) (v 1) .n) (k 1) (v 1) rfl h1)))) (lin [a0, a1, a2, (a1 - 1)] (.c 1 (v 2) (a (v 0) (v 1)) (.c 1 (v 1) (a (v 3) (k 1)) .n)) (v 2) (a (a (v 0) (k 1)) (v 3)) rfl (Nat.le_of_eq h0.symm) (sA a1 1))
theorem o311 {a0 a1 a2 : Nat} (h0 : a1 = a2) (h1 : a0 ≤ a2) (h2 : ¬a0 < a1) : a0 = a1 := Nat.le_antisymm (lin [a0, a1, a2] (.c 1 (v 2) (v 1) (.c 1 (v 0) (v 2) .n)) (v 0) (v 1) rfl (Nat.le_of_eq h0.symm) h1) (lin [a0, a1, a2] (.c 1 (v 1) (v 0) .n) (v 1) (v 0) rfl (Nat.le_of_not_lt h2))
theorem o313 {a0 : Nat} (h0 : a0 < (2 : Nat) ^ (60 : Nat)) : (↑a0 : Int) < (2 : Int) ^ (63 : Nat) := Int.lt_trans (Int.ofNat_lt.mpr h0) (by decide)
theorem o314 {a0 a1 a2 a3 : Nat} (h0 : a0 ≤ 2100 ∧ a3 ≤ 610) (h1 : a2 = 9900) (h2 : a1 ≤ 1000) : a0 + (a1 + 1) < a2 := lin [a0, a1, a2, a3] (.c 1 (v 0) (k 2100) (.c 1 (k 9900) (v 2) (.c 1 (v 1) (k 1000) .n))) (a (a (v 0) (a (v 1) (k 1))) (k 1)) (v 2) rfl h0.1 (Nat.le_of_eq h1.symm) h2
theorem o315 {a0 : Int} (h0 : a0 < (2 : Int) ^ (60 : Nat)) : a0 < (2 : Int) ^ (63 : Nat) := Int.lt_trans h0 (by decide)
theorem o316   : -(2 : Int) ^ (63 : Nat) ≤ (-1 : Int) := by decide
theorem o317 {a0 : Int} (h0 : (0 : Int) ≤ a0) : -(2 : Int) ^ (63 : Nat) ≤ a0 := Int.le_trans (by decide) h0
theorem o329 {a0 : Nat} {a1 : Prop} (h0 : a0 ≤ 1000 ∧ a1) : a0 ≤ 16777216 := lin [a0] (.c 1 (v 0) (k 1000) .n) (v 0) (k 16777216) rfl h0.1
theorem o330 {a0 : Nat} (h0 : a0 ≤ 1000) : a0 < 2 ^ 60 := lin [a0] (.c 1 (v 0) (k 1000) .n) (a (v 0) (k 1)) (k 1152921504606846976) rfl h0
theorem o331 {a0 : Nat} (h0 : a0 < (1000 : Nat)) : (0 : Int) + (↑a0 : Int) < (2 : Int) ^ (60 : Nat) := (Int.zero_add (a0 : Int)).symm ▸ Int.lt_trans (Int.ofNat_lt.mpr h0) (by decide)
theorem o332   : -(2 : Int) ^ (62 : Nat) ≤ (0 : Int) ∧ (0 : Int) < (2 : Int) ^ (62 : Nat) := by decide
theorem o333 {a0 : Nat} (h0 : a0 ≤ (1000 : Nat)) : -(2 : Int) ^ (62 : Nat) ≤ (↑a0 : Int) ∧ (↑a0 : Int) < (2 : Int) ^ (62 : Nat) := ⟨Int.le_trans (by decide) (Int.natCast_nonneg _), Int.lt_of_le_of_lt (Int.ofNat_le.mpr h0) (by decide)⟩
theorem o334 {a0 a1 a2 a3 : Nat} (h0 : a0 ≤ a3 + a2) (h1 : a3 ≤ a1) : a0 ≤ a1 + a2 := lin [a0, a1, a2, a3] (.c 1 (v 0) (a (v 3) (v 2)) (.c 1 (v 3) (v 1) .n)) (v 0) (a (v 1) (v 2)) rfl h0 h1
theorem o336 {a0 : Nat} (h0 : a0 ≤ 9) : a0 < 2 ^ 60 := lin [a0] (.c 1 (v 0) (k 9) .n) (a (v 0) (k 1)) (k 1152921504606846976) rfl h0
theorem o337 {a0 : Nat} (h0 : a0 < 1000) : a0 ≤ 2 ^ 24 := lin [a0] (.c 1 (a (v 0) (k 1)) (k 1000) .n) (v 0) (k 16777216) rfl h0
theorem o338 {a0 : Nat} (h0 : a0 < 1000) : a0 < 2 ^ 60 := lin [a0] (.c 1 (a (v 0) (k 1)) (k 1000) .n) (a (v 0) (k 1)) (k 1152921504606846976) rfl h0
theorem o339 {a0 a1 a2 a3 : Nat} (h0 : a1 + a2 + a3 ≤ 3000) (h1 : a0 ≤ a1) : a0 ≤ 3000 := lin [a0, a1, a2, a3] (.c 1 (a (a (v 1) (v 2)) (v 3)) (k 3000) (.c 1 (v 0) (v 1) .n)) (v 0) (k 3000) rfl h0 h1
theorem o341 {a0 : Nat} (h0 : a0 ≤ 4000) : a0 < 2 ^ 60 := lin [a0] (.c 1 (v 0) (k 4000) .n) (a (v 0) (k 1)) (k 1152921504606846976) rfl h0
theorem o344 {a0 a1 : Nat} (h0 : a1 ≤ (5000 : Nat)) (h1 : a0 < a1) : (↑a0 : Int) < (2 : Int) ^ (63 : Nat) - (1 : Int) := Int.lt_trans (Int.ofNat_lt.mpr (Nat.lt_of_lt_of_le h1 h0)) (by decide)
theorem o347 {a0 : Nat} (h0 : a0 ≤ 10) : a0 < 2 ^ 60 := lin [a0] (.c 1 (v 0) (k 10) .n) (a (v 0) (k 1)) (k 1152921504606846976) rfl h0
theorem o352 {a0 : Int} {a1 : Nat} (h0 : a1 ≤ (2000 : Nat)) (h1 : a0.toNat < a1) : a0 < (2 : Int) ^ (60 : Nat) := Int.lt_of_le_of_lt (Int.self_le_toNat a0) (Int.lt_trans (Int.ofNat_lt.mpr (Nat.lt_of_lt_of_le h1 h0)) (by decide))
theorem o357 {a0 : Nat} (h0 : a0 ≤ 7) : a0 < 2 ^ 60 := lin [a0] (.c 1 (v 0) (k 7) .n) (a (v 0) (k 1)) (k 1152921504606846976) rfl h0
theorem o358 {a0 : Nat} (h0 : a0 ≤ (2 : Nat)) : (↑a0 : Int) < (2 : Int) ^ (60 : Nat) := Int.lt_of_le_of_lt (Int.ofNat_le.mpr h0) (by decide)
theorem o360 {a0 a1 : Int} (h0 : a0 ≤ a1 ∧ a0 ≠ a1) : a0 < a1 := by lia
theorem o368 {a0 : Nat} {a1 : Int} (h0 : (0 : Int) ≤ a1 ∧ a1 < (10 : Int)) (h1 : a0 = ((1 : Int) + a1).toNat) : a0 ≤ (10 : Nat) := by lia
theorem o369 {a0 : Int} (h0 : (0 : Int) ≤ a0 ∧ a0 < (10 : Int)) : a0 < (2 : Int) ^ (60 : Nat) := Int.lt_trans h0.2 (by decide)
theorem o370 {a0 : Nat} (h0 : a0 < (2 : Nat)) : (↑a0 : Int) < (2 : Int) ^ (60 : Nat) := Int.lt_trans (Int.ofNat_lt.mpr h0) (by decide)
theorem o372 {a0 : Nat} (h0 : a0 ≤ 7) : a0 ≤ 2 ^ 24 := lin [a0] (.c 1 (v 0) (k 7) .n) (v 0) (k 16777216) rfl h0
theorem o376 {a0 : Nat} (h0 : ¬(↑(63 : Nat) : Int) < (↑a0 : Int)) : a0 ≤ (63 : Nat) := by lia
end
end Mine
namespace Mine
section
open Lx
theorem o400 {a0 a1 a2 : Nat}  : a0 + a1 + 1 = a0 + (a1 + 1) ∧ a2 - a0 - a1 - 1 = a2 - a0 - (a1 + 1) := by lia
theorem o401 {a0 a1 a2 a3 : Nat} (h0 : a0 + a2 = a3) (h1 : a3 ≤ a1) : a0 ≤ a1 := lin [a0, a1, a2, a3] (.c 1 (a (v 0) (v 2)) (v 3) (.c 1 (v 3) (v 1) .n)) (v 0) (v 1) rfl (Nat.le_of_eq h0) h1
theorem o404 {a0 a1 a2 a3 a4 : Nat} (h0 : a4 < a2 + 1 - a3) (h1 : a0 < a1 + a4) : a0 - a1 ≤ a2 - a3 := by lia
theorem o405 {a0 a1 a2 a3 : Nat} (h0 : a0 < a1 + (a2 - a3) + 1) : a0 - a1 ≤ a2 - a3 := (Nat.le_total a3 a2).elim (fun w0 => (Nat.le_total a1 a0).elim (fun w1 => lin [a0, a1, a2, a3, (a2 - a3), (a0 - a1)] (.c 1 (a (v 0) (k 1)) (a (a (v 1) (v 4)) (k 1)) (.c 1 (a (v 5) (v 1)) (v 0) .n)) (v 5) (v 4) rfl h0 (Nat.le_of_eq (Nat.sub_add_cancel w1))) (fun w1 => lin [a0, a1, a2, a3, (a2 - a3), (a0 - a1)] (.c 1 (v 5) (k 0) .n) (v 5) (v 4) rfl (Nat.le_of_eq (Nat.sub_eq_zero_of_le w1)))) (fun w0 => lin [a0, a1, a2, a3, (a2 - a3), (a0 - a1)] (.c 1 (v 5) (k 0) .n) (v 5) (v 4) rfl (Nat.le_of_eq (Nat.sub_eq_zero_of_le (lin [a0, a1, a2, a3, (a2 - a3), (a0 - a1)] (.c 1 (a (v 0) (k 1)) (a (a (v 1) (v 4)) (k 1)) (.c 1 (v 4) (k 0) .n)) (v 0) (v 1) rfl h0 (Nat.le_of_eq (Nat.sub_eq_zero_of_le w0))))))
theorem o406 {a0 a1 a2 : Nat} (h0 : a1 = a2) (h1 : a0 = a1) (h2 : a2 ≤ 18) : a0 ≤ 31 := lin [a0, a1, a2] (.c 1 (v 1) (v 2) (.c 1 (v 0) (v 1) (.c 1 (v 2) (k 18) .n))) (v 0) (k 31) rfl (Nat.le_of_eq h0) (Nat.le_of_eq h1) h2
theorem o407   : (0 : Nat) ≤ (16777216 : Nat) := lin [] .n (k 0) (k 16777216) rfl
theorem o408 {a0 : Nat} (h0 : a0 = 1) : a0 ≤ 10 := lin [a0] (.c 1 (v 0) (k 1) .n) (v 0) (k 10) rfl (Nat.le_of_eq h0)
theorem o409 {a0 a1 a2 : Nat} (h0 : a2 ≤ a1) (h1 : a0 < a2) : a0 < a1 := lin [a0, a1, a2] (.c 1 (v 2) (v 1) (.c 1 (a (v 0) (k 1)) (v 2) .n)) (a (v 0) (k 1)) (v 1) rfl h0 h1
theorem o410 {a0 a1 : Nat} (h0 : a0 < a1) : a0 < a1 + 1 := lin [a0, a1] (.c 1 (a (v 0) (k 1)) (v 1) .n) (a (v 0) (k 1)) (a (v 1) (k 1)) rfl h0
theorem o411 {a0 : Nat}  : a0 + 1 ≤ a0 + 1 := lin [a0] .n (a (v 0) (k 1)) (a (v 0) (k 1)) rfl
theorem o412 {a0 : Int} (h0 : (0 : Int) ≤ a0 ∧ a0 < (7 : Int)) : a0 = (0 : Int) ∨ a0 = (1 : Int) ∨ a0 = (2 : Int) ∨ a0 = (3 : Int) ∨ a0 = (4 : Int) ∨ a0 = (5 : Int) ∨ a0 = (6 : Int) := by lia
theorem o413 {a0 a1 : Nat} (h0 : a0 * 5 < a1 * 3) : 5 * a0 < 3 * a1 := by lia
theorem o414 {a0 a1 : Nat} (h0 : a0 * 3 ≤ a1 * 5) : a0 * 3 ≤ a1 * 5 := h0
theorem o416   : (0 : Nat) + (1 : Nat) + (1 : Nat) ≤ (16777216 : Nat) := lin [] .n (a (a (k 0) (k 1)) (k 1)) (k 16777216) rfl
theorem o417   : (0 : Nat) + (1 : Nat) + (1 : Nat) + (1 : Nat) + (1 : Nat) ≤ (16777216 : Nat) + (2 : Nat) := lin [] .n (a (a (a (a (k 0) (k 1)) (k 1)) (k 1)) (k 1)) (a (k 16777216) (k 2)) rfl
theorem o418   : (0 : Nat) + (1 : Nat) ≤ (16777216 : Nat) + (2 : Nat) := lin [] .n (a (k 0) (k 1)) (a (k 16777216) (k 2)) rfl
theorem o419 {a0 a1 a2 : Nat} {a3 : Prop} (h0 : a1 ≤ 310 + 3 * a2 ∧ a0 ≤ 100 + 20 * a2 ∧ a2 ≤ 100 ∧ a3) : a0 + 2000 < 9900 := lin [a0, a1, a2] (.c 1 (v 0) (a (k 100) (m 20 (v 2))) (.c 20 (v 2) (k 100) .n)) (a (a (v 0) (k 2000)) (k 1)) (k 9900) rfl h0.2.1 h0.2.2.1
theorem o420 {a0 a1 a2 : Nat} (h0 : a0 ≤ a1) : a0 ≤ a1 + a2 := lin [a0, a1, a2] (.c 1 (v 0) (v 1) .n) (v 0) (a (v 1) (v 2)) rfl h0
theorem o421 {a0 a1 a2 a3 a4 a5 : Nat} (h0 : a2 = a3 + a4) (h1 : a0 + a5 + a3 ≤ 3000) (h2 : a1 + (a4 + 1) ≤ a5) : a0 + 1 + a1 + a2 ≤ 3000 := lin [a0, a1, a2, a3, a4, a5] (.c 1 (v 2) (a (v 3) (v 4)) (.c 1 (a (a (v 0) (v 5)) (v 3)) (k 3000) (.c 1 (a (v 1) (a (v 4) (k 1))) (v 5) .n))) (a (a (a (v 0) (k 1)) (v 1)) (v 2)) (k 3000) rfl (Nat.le_of_eq h0) h1 h2
theorem o422 {a0 a1 : Nat} (h0 : a1 = a0 + 4 ∨ a1 = a0 + 3 ∨ a1 = a0 ∨ a1 = a0 + 1) : a0 ≤ a1 ∧ a1 < a0 + 5 := by lia
theorem o423 {a0 a1 a2 : Nat} (h0 : a1 ≤ 10 * a2) (h1 : a0 ≤ 10) : a0 + a1 ≤ 10 * (a2 + 1) := lin [a0, a1, a2] (.c 1 (v 1) (m 10 (v 2)) (.c 1 (v 0) (k 10) .n)) (a (v 0) (v 1)) (m 10 (a (v 2) (k 1))) rfl h0 h1
theorem o424 {a0 a1 a2 a3 : Nat} (h0 : a1 ≤ a2) (h1 : a3 ≤ 200) (h2 : a0 ≤ 10 * a1) (h3 : a2 < a3) : a0 ≤ 2000 := lin [a0, a1, a2, a3] (.c 10 (v 1) (v 2) (.c 10 (v 3) (k 200) (.c 1 (v 0) (m 10 (v 1)) (.c 10 (a (v 2) (k 1)) (v 3) .n)))) (v 0) (k 2000) rfl h0 h1 h2 h3
theorem o425 {a0 : Nat}  : max (0 : Int) (min (1 : Int) ((↑a0 : Int) + (1 : Int))) = (1 : Int) := by lia
theorem o426 {a0 a1 a2 a3 : Nat} (h0 : a0 ≤ a3 - 1) (h1 : a1 ≤ 10 * a2) (h2 : a3 ≤ 10) : a0 + a1 ≤ 10 * (a2 + 1) := lin [a0, a1, a2, a3, (a3 - 1)] (.c 1 (v 0) (v 4) (.c 1 (v 1) (m 10 (v 2)) (.c 1 (v 3) (k 10) (.c 1 (v 4) (v 3) .n)))) (a (v 0) (v 1)) (m 10 (a (v 2) (k 1))) rfl h0 h1 h2 (Nat.sub_le a3 1)
theorem o427 {a0 a1 a2 : Nat} (h0 : a1 ≤ a2) (h1 : a2 ≤ 200) (h2 : a0 ≤ 10 * a1) : a0 ≤ 2000 := lin [a0, a1, a2] (.c 10 (v 1) (v 2) (.c 10 (v 2) (k 200) (.c 1 (v 0) (m 10 (v 1)) .n))) (v 0) (k 2000) rfl h0 h1 h2
theorem o428 {a0 a1 : Nat} (h0 : a0 < a1) : (0 : Int) ≤ (↑a0 : Int) ∧ (↑a0 : Int).toNat < a1 := ⟨Int.natCast_nonneg _, h0⟩
theorem o429 {a0 a1 : Nat} (h0 : a1 ≤ 200) (h1 : a0 ≤ 10 * a1) : a0 ≤ 2000 := lin [a0, a1] (.c 10 (v 1) (k 200) (.c 1 (v 0) (m 10 (v 1)) .n)) (v 0) (k 2000) rfl h0 h1
theorem o430 {a0 a1 a2 a3 : Nat} (h0 : a1 = a2) (h1 : a3 ≤ a1) (h2 : a2 ≤ 7) (h3 : a0 ≤ a3) : a0 ≤ 7 := lin [a0, a1, a2, a3] (.c 1 (v 1) (v 2) (.c 1 (v 3) (v 1) (.c 1 (v 2) (k 7) (.c 1 (v 0) (v 3) .n)))) (v 0) (k 7) rfl (Nat.le_of_eq h0) h1 h2 h3
theorem o431 {a0 a1 a2 a3 : Nat} (h0 : a1 = a2) (h1 : a0 = a3) (h2 : a2 ≤ 7) (h3 : a3 < a1) : a0 ≤ 7 := lin [a0, a1, a2, a3] (.c 1 (v 1) (v 2) (.c 1 (v 0) (v 3) (.c 1 (v 2) (k 7) (.c 1 (a (v 3) (k 1)) (v 1) .n)))) (v 0) (k 7) rfl (Nat.le_of_eq h0) (Nat.le_of_eq h1) h2 h3
theorem o432 {a0 a1 a2 : Nat} (h0 : a1 = a2) (h1 : a2 ≤ 7) (h2 : a0 ≤ a1) : a0 ≤ 7 := lin [a0, a1, a2] (.c 1 (v 1) (v 2) (.c 1 (v 2) (k 7) (.c 1 (v 0) (v 1) .n))) (v 0) (k 7) rfl (Nat.le_of_eq h0) h1 h2
theorem o433 {a0 a1 a2 : Nat} (h0 : a1 = a2) (h1 : a0 = a1) (h2 : a2 ≤ 7) : a0 ≤ 7 := lin [a0, a1, a2] (.c 1 (v 1) (v 2) (.c 1 (v 0) (v 1) (.c 1 (v 2) (k 7) .n))) (v 0) (k 7) rfl (Nat.le_of_eq h0) (Nat.le_of_eq h1) h2
theorem o435 {a0 a1 : Nat} (h0 : a1 ≤ 7) (h1 : a0 ≤ a1) : a0 ≤ 1000 := lin [a0, a1] (.c 1 (v 1) (k 7) (.c 1 (v 0) (v 1) .n)) (v 0) (k 1000) rfl h0 h1
theorem o436 {a0 a1 : Nat} (h0 : a1 ≤ 70) (h1 : a0 ≤ 10 * a1) : a0 ≤ 700 := lin [a0, a1] (.c 10 (v 1) (k 70) (.c 1 (v 0) (m 10 (v 1)) .n)) (v 0) (k 700) rfl h0 h1
theorem o437 {a0 : Nat}  : a0 + 1 = 1 + a0 := Nat.le_antisymm (lin [a0] .n (a (v 0) (k 1)) (a (k 1) (v 0)) rfl) (lin [a0] .n (a (k 1) (v 0)) (a (v 0) (k 1)) rfl)
theorem o438 {a0 a1 a2 : Nat} (h0 : a1 ≤ a2) (h1 : a0 ≤ 1) : a0 + a1 ≤ a2 + 1 := lin [a0, a1, a2] (.c 1 (v 1) (v 2) (.c 1 (v 0) (k 1) .n)) (a (v 0) (v 1)) (a (v 2) (k 1)) rfl h0 h1
theorem o439 {a0 a1 a2 a3 : Nat} (h0 : a3 ≤ 10) (h1 : a0 ≤ a3 - 1) (h2 : a1 ≤ 10 * a2) : a0 + a1 ≤ 10 * (a2 + 1) := lin [a0, a1, a2, a3, (a3 - 1)] (.c 1 (v 3) (k 10) (.c 1 (v 0) (v 4) (.c 1 (v 1) (m 10 (v 2)) (.c 1 (v 4) (v 3) .n)))) (a (v 0) (v 1)) (m 10 (a (v 2) (k 1))) rfl h0 h1 h2 (Nat.sub_le a3 1)
theorem o440 {a0 a1 a2 a3 : Nat} (h0 : a1 = a2) (h1 : a3 ≤ 70) (h2 : a2 ≤ 7) (h3 : a0 ≤ 10 * a3) : a0 + a1 ≤ 3000 := lin [a0, a1, a2, a3] (.c 1 (v 1) (v 2) (.c 10 (v 3) (k 70) (.c 1 (v 2) (k 7) (.c 1 (v 0) (m 10 (v 3)) .n)))) (a (v 0) (v 1)) (k 3000) rfl (Nat.le_of_eq h0) h1 h2 h3
theorem o441 {a0 a1 : Nat} (h0 : a0 = a1) (h1 : a1 ≤ 7) : a0 ≤ 7 := lin [a0, a1] (.c 1 (v 0) (v 1) (.c 1 (v 1) (k 7) .n)) (v 0) (k 7) rfl (Nat.le_of_eq h0) h1
theorem o442 {a0 a1 : Nat} (h0 : a1 ≤ 70) (h1 : a0 ≤ 10 * a1) : a0 ≤ 1000 := lin [a0, a1] (.c 10 (v 1) (k 70) (.c 1 (v 0) (m 10 (v 1)) .n)) (v 0) (k 1000) rfl h0 h1
theorem o443 {a0 a1 a2 : Nat} (h0 : a0 ≤ a2) : a0 ≤ a1 + a2 := lin [a0, a1, a2] (.c 1 (v 0) (v 2) .n) (v 0) (a (v 1) (v 2)) rfl h0
theorem o444 {a0 a1 a2 : Nat} (h0 : a0 = a2 + 1) : a0 + a1 = a2 + a1 + 1 := Nat.le_antisymm (lin [a0, a1, a2] (.c 1 (v 0) (a (v 2) (k 1)) .n) (a (v 0) (v 1)) (a (a (v 2) (v 1)) (k 1)) rfl (Nat.le_of_eq h0)) (lin [a0, a1, a2] (.c 1 (a (v 2) (k 1)) (v 0) .n) (a (a (v 2) (v 1)) (k 1)) (a (v 0) (v 1)) rfl (Nat.le_of_eq h0.symm))
theorem o445 {a0 a1 a2 : Nat} (h0 : a1 = a2 + 1) : a0 + a1 = a0 + a2 + 1 := Nat.le_antisymm (lin [a0, a1, a2] (.c 1 (v 1) (a (v 2) (k 1)) .n) (a (v 0) (v 1)) (a (a (v 0) (v 2)) (k 1)) rfl (Nat.le_of_eq h0)) (lin [a0, a1, a2] (.c 1 (a (v 2) (k 1)) (v 1) .n) (a (a (v 0) (v 2)) (k 1)) (a (v 0) (v 1)) rfl (Nat.le_of_eq h0.symm))
end
end Mine
end
section
open PySem PySem.W PySem.Calls PyProof.Rows
set_option linter.unusedVariables false
namespace Mine
theorem below_succ {P : Nat → Prop} {n : Nat} (h : ∀ i, i < n → P i) (hn : P n) : ∀ i, i < n + 1 → P i := fun i hi => (Nat.lt_or_eq_of_le (Nat.le_of_lt_succ hi)).elim (h i) fun e => e ▸ hn
theorem below2 {P : Nat → Prop} (h0 : P 0) (h1 : P 1) : ∀ i, i < 2 → P i := below_succ (below_succ (fun i hi => absurd hi (Nat.not_lt_zero i)) h0) h1
theorem below3 {P : Nat → Prop} (h0 : P 0) (h1 : P 1) (h2 : P 2) : ∀ i, i < 3 → P i := below_succ (below2 h0 h1) h2
theorem below4 {P : Nat → Prop} (h0 : P 0) (h1 : P 1) (h2 : P 2) (h3 : P 3) : ∀ i, i < 4 → P i := below_succ (below3 h0 h1 h2) h3
theorem below10 {P : Nat → Prop} (h0 : P 0) (h1 : P 1) (h2 : P 2) (h3 : P 3) (h4 : P 4) (h5 : P 5) (h6 : P 6) (h7 : P 7) (h8 : P 8) (h9 : P 9) : ∀ i, i < 10 → P i := below_succ (below_succ (below_succ (below_succ (below_succ (below_succ (below4 h0 h1 h2 h3) h4) h5) h6) h7) h8) h9
inductive V where
  | none
  | bool (b : Bool)
  | int (n : Int)
  | str (s : Str)
  | tup (xs : List V)
  | rng (a b c : Int)
  | view (cls : String) (d : Addr)
  | ref (a : Addr)
  | cst (v : Value)
  | pint (n : Int)
  | pstr (s : Str)
mutual
noncomputable def ck : V → V
  | .bool b => .int (if b then 1 else 0)
  | .tup xs => .tup (cks xs)
  | .pint n => .int n
  | .pstr s => .str s
  | x => x
noncomputable def cks : List V → List V
  | [] => []
  | x :: xs => ck x :: cks xs
end
mutual
noncomputable def eqk : V → V → Bool
  | .none, .none => true
  | .int a, .int b => a == b
  | .str a, .str b => a == b
  | .tup xs, .tup ys => eqks xs ys
  | _, _ => false
noncomputable def eqks : List V → List V → Bool
  | [], [] => true
  | x :: xs, y :: ys => eqk x y && eqks xs ys
  | _, _ => false
end
noncomputable def veq (x y : V) : Bool := eqk (ck x) (ck y)
noncomputable def veqs (xs ys : List V) : Bool := eqks (cks xs) (cks ys)
mutual
noncomputable def dat : V → Bool
  | .none => true
  | .bool _ => true
  | .int _ => true
  | .str _ => true
  | .tup xs => dats xs
  | .pint _ => true
  | .pstr _ => true
  | _ => false
noncomputable def dats : List V → Bool
  | [] => true
  | x :: xs => dat x && dats xs
end
mutual
noncomputable def dep : V → Nat
  | .tup xs => deps xs + 1
  | _ => 0
noncomputable def deps : List V → Nat
  | [] => 0
  | x :: xs => max (dep x) (deps xs)
end
theorem ck_none : ck .none = .none := by unfold ck; rfl
theorem ck_int (n : Int) : ck (.int n) = .int n := by unfold ck; rfl
theorem ck_str (n : Str) : ck (.str n) = .str n := by unfold ck; rfl
theorem ck_bool (b : Bool) : ck (.bool b) = .int (if b then 1 else 0) := by unfold ck; rfl
theorem ck_pint (n : Int) : ck (.pint n) = .int n := by unfold ck; rfl
theorem ck_pstr (n : Str) : ck (.pstr n) = .str n := by unfold ck; rfl
theorem ck_tup (xs : List V) : ck (.tup xs) = .tup (cks xs) := by unfold ck; rfl
theorem cks_cons (x : V) (xs : List V) : cks (x :: xs) = ck x :: cks xs := by conv => lhs; unfold cks
theorem cks_nil : cks [] = [] := by unfold cks; rfl
theorem eqk_int (a b : Int) : eqk (.int a) (.int b) = (a == b) := by unfold eqk; rfl
theorem eqk_str (a b : Str) : eqk (.str a) (.str b) = (a == b) := by unfold eqk; rfl
theorem eqk_tup (a b : List V) : eqk (.tup a) (.tup b) = eqks a b := by unfold eqk; rfl
theorem eqks_cons (x y : V) (xs ys : List V) : eqks (x :: xs) (y :: ys) = (eqk x y && eqks xs ys) := by conv => lhs; unfold eqks
theorem eqks_nil : eqks [] [] = true := by unfold eqks; rfl
theorem veqs_cons (x y : V) (xs ys : List V) : veqs (x :: xs) (y :: ys) = (veq x y && veqs xs ys) := by unfold veqs veq; rw [cks_cons, cks_cons, eqks_cons]
theorem veqs_nil : veqs [] [] = true := by unfold veqs; rw [cks_nil, eqks_nil]
mutual
theorem eqk_refl : ∀ (x : V), dat x = true → eqk (ck x) (ck x) = true
  | .none, _ => by unfold ck eqk; rfl
  | .bool _, _ => by rw [ck_bool, eqk_int]; exact beq_self_eq_true _
  | .int _, _ => by rw [ck_int, eqk_int]; exact beq_self_eq_true _
  | .str _, _ => by rw [ck_str, eqk_str]; exact beq_self_eq_true _
  | .tup xs, d => by rw [ck_tup, eqk_tup]; unfold dat at d; exact eqks_refl xs d
  | .rng _ _ _, d => by unfold dat at d; cases d
  | .view _ _, d => by unfold dat at d; cases d
  | .ref _, d => by unfold dat at d; cases d
  | .cst _, d => by unfold dat at d; cases d
  | .pint _, _ => by rw [ck_pint, eqk_int]; exact beq_self_eq_true _
  | .pstr _, _ => by rw [ck_pstr, eqk_str]; exact beq_self_eq_true _
theorem eqks_refl : ∀ (xs : List V), dats xs = true → eqks (cks xs) (cks xs) = true
  | [], _ => by rw [cks_nil, eqks_nil]
  | x :: xs, d => by unfold dats at d; rw [Bool.and_eq_true] at d; rw [cks_cons, eqks_cons, eqk_refl x d.1, eqks_refl xs d.2]; rfl
end
mutual
theorem eqk_eq : ∀ (a b : V), eqk a b = true → a = b
  | .tup xs, b, h => by
    cases b with
    | tup ys => rw [eqk_tup] at h; rw [eqks_eq xs ys h]
    | _ => unfold eqk at h; cases h
  | .none, b, h => by unfold eqk at h; cases b <;> first | rfl | cases h
  | .int a, b, h => by unfold eqk at h; cases b <;> first | exact congrArg V.int (eq_of_beq h) | cases h
  | .str a, b, h => by unfold eqk at h; cases b <;> first | exact congrArg V.str (eq_of_beq h) | cases h
  | .bool _, _, h => by unfold eqk at h; cases h
  | .rng _ _ _, _, h => by unfold eqk at h; cases h
  | .view _ _, _, h => by unfold eqk at h; cases h
  | .ref _, _, h => by unfold eqk at h; cases h
  | .cst _, _, h => by unfold eqk at h; cases h
  | .pint _, _, h => by unfold eqk at h; cases h
  | .pstr _, _, h => by unfold eqk at h; cases h
theorem eqks_eq : ∀ (xs ys : List V), eqks xs ys = true → xs = ys
  | [], [], _ => rfl
  | [], _ :: _, h => by unfold eqks at h; cases h
  | _ :: _, [], h => by unfold eqks at h; cases h
  | x :: xs, y :: ys, h => by rw [eqks_cons, Bool.and_eq_true] at h; rw [eqk_eq x y h.1, eqks_eq xs ys h.2]
end
theorem veq_int (a b : Int) : veq (.int a) (.int b) = (a == b) := by unfold veq; rw [ck_int, ck_int, eqk_int]
theorem veq_refl (x : V) (d : dat x = true) : veq x x = true := eqk_refl x d
theorem veq_ck (x y : V) (dx : dat x = true) (_ : dat y = true) : veq x y = true ↔ ck x = ck y := ⟨eqk_eq _ _, fun e => by unfold veq; rw [← e]; exact eqk_refl x dx⟩
theorem veqs_cks (x y : List V) (dx : dats x = true) (_ : dats y = true) : veqs x y = true ↔ cks x = cks y := ⟨eqks_eq _ _, fun e => by unfold veqs; rw [← e]; exact eqks_refl x dx⟩
theorem veq_bool (a b : Bool) : veq (.bool a) (.bool b) = (a == b) := by unfold veq; rw [ck_bool, ck_bool, eqk_int]; cases a <;> cases b <;> rfl
theorem cks_len (xs : List V) : (cks xs).length = xs.length := by
  induction xs with
  | nil => rw [cks_nil]
  | cons x xs ih => rw [cks_cons, List.length_cons, List.length_cons, ih]
theorem veqs_len {xs ys : List V} (e : veqs xs ys = true) : xs.length = ys.length := by rw [← cks_len xs, ← cks_len ys, eqks_eq _ _ e]
theorem veqs_all : ∀ (xs ys : List V), xs.length = ys.length → (List.range xs.length).all (fun j => veq (xs.getD j .none) (ys.getD j .none)) = veqs xs ys
  | [], [], _ => veqs_nil.symm
  | x :: xs, y :: ys, e => by
    rw [veqs_cons, ← veqs_all xs ys (Nat.succ.inj e), List.length_cons, List.range_succ_eq_map, List.all_cons, List.all_map]
    rfl
theorem veqs_min (xs ys : List V) : ((List.range (min xs.length ys.length)).all (fun j => veq (xs.getD j .none) (ys.getD j .none)) && xs.length == ys.length) = veqs xs ys := by
  by_cases e : xs.length = ys.length
  · rw [← veqs_all xs ys e, e, Nat.min_self]; simp
  · rw [beq_eq_false_iff_ne.mpr e, Bool.and_false]
    cases q : veqs xs ys with
    | false => rfl
    | true => exact absurd (veqs_len q) e
theorem dats_get : ∀ {xs : List V} {j : Nat}, dats xs = true → dat (xs.getD j .none) = true
  | [], _, _ => by simp; unfold dat; rfl
  | x :: xs, j, d => by
    unfold dats at d; rw [Bool.and_eq_true] at d
    cases j with
    | zero => exact d.1
    | succ j => rw [List.getD_cons_succ]; exact dats_get d.2
theorem deps_get : ∀ {xs : List V} {j : Nat}, dep (xs.getD j .none) ≤ deps xs
  | [], _ => by simp; unfold dep; exact o0
  | x :: xs, j => by
    unfold deps
    cases j with
    | zero => exact Nat.le_max_left ..
    | succ j => rw [List.getD_cons_succ]; exact Nat.le_trans deps_get (Nat.le_max_right ..)
mutual
noncomputable def toW : V → WData
  | .none => .none
  | .bool b => .bool b
  | .int n => .int n
  | .str s => .str s
  | .tup xs => .tuple (toWs xs)
  | .pint n => .int n
  | .pstr s => .str s
  | _ => .none
noncomputable def toWs : List V → List WData
  | [] => []
  | x :: xs => toW x :: toWs xs
end
noncomputable def hV (P : Params) (x : V) : Int := hashW P (toW x)
noncomputable def hVs (P : Params) (xs : List V) : List Int := hashesW P (toWs xs)
mutual
theorem hV_ck (P : Params) : ∀ x : V, hV P (ck x) = hV P x
  | .none => by rw [ck_none]
  | .int _ => by rw [ck_int]
  | .str _ => by rw [ck_str]
  | .bool b => by
    rw [ck_bool]; unfold hV toW
    cases b
    · show hashW P (.int 0) = hashW P (.bool false); unfold hashW; rfl
    · show hashW P (.int 1) = hashW P (.bool true); unfold hashW; rfl
  | .tup xs => by
    rw [ck_tup]; unfold hV toW hashW
    have := hVs_cks P xs
    unfold hVs at this
    rw [this]
  | .rng _ _ _ => by unfold ck; rfl
  | .view _ _ => by unfold ck; rfl
  | .ref _ => by unfold ck; rfl
  | .cst _ => by unfold ck; rfl
  | .pint _ => by rw [ck_pint]; unfold hV toW; rfl
  | .pstr _ => by rw [ck_pstr]; unfold hV toW; rfl
theorem hVs_cks (P : Params) : ∀ xs : List V, hVs P (cks xs) = hVs P xs
  | [] => by unfold cks; rfl
  | x :: xs => by
    unfold hVs cks toWs hashesW
    have h1 := hV_ck P x
    have h2 := hVs_cks P xs
    unfold hV at h1
    unfold hVs at h2
    rw [h1, h2]
end
theorem hV_eq (P : Params) {x y : V} (dx : dat x = true) (dy : dat y = true) (h : veq x y = true) : hV P x = hV P y := by
  rw [← hV_ck P x, (veq_ck x y dx dy).mp h, hV_ck]
noncomputable def wk : V → V
  | .pint n => .int n
  | .pstr s => .str s
  | x => x
theorem wk_wk (x : V) : wk (wk x) = wk x := by cases x <;> rfl
theorem dat_wk (x : V) : dat (wk x) = dat x := by cases x <;> (try rfl) <;> (unfold wk; unfold dat; rfl)
theorem veq_wk (x y : V) : veq (wk x) (wk y) = veq x y := by cases x <;> cases y <;> (try rfl) <;> (unfold wk; unfold veq; rfl)
theorem veq_of_ck {x y z : V} (dx : dat x = true) (dy : dat y = true) (dz : dat z = true) (h : ck x = ck y) : veq x z = veq y z := by
  rw [Bool.eq_iff_iff, veq_ck x z dx dz, veq_ck y z dy dz, h]
end Mine
end
section
open PySem PySem.W PySem.Calls PyProof.Rows
set_option linter.unusedVariables false
namespace Mine
noncomputable def nameAt : Nat → V × Int
  | 0 => (.pint 0, 0)
  | 1 => (.pint 1, 1)
  | 2 => (.bool false, 0)
  | 3 => (.bool true, 1)
  | 4 => (.tup [.int 0, .str "a"], 2)
  | 5 => (.tup [.bool false, .str "a"], 2)
  | 6 => (.pstr "", 3)
  | 7 => (.none, 4)
  | 8 => (.pint (-1), 5)
  | 9 => (.pint (-2), 6)
  | _ => (.pint 0, 0)
noncomputable def cd (i : Int) : V := (nameAt i.toNat).1
noncomputable def cl (i : Int) : Int := (nameAt i.toNat).2
theorem nameAt_cases {P : V × Int → Prop} (h : ∀ n, n < 10 → P (nameAt n)) (n : Nat) : P (nameAt n) := by
  by_cases q : n < 10
  · exact h n q
  · have : nameAt n = nameAt 0 := by
      match n, q with
      | n + 10, _ => rfl
    rw [this]; exact h 0 (by decide)
theorem cd_dat (i : Int) : dat (cd i) = true := nameAt_cases (P := fun p => dat p.1 = true) (by decide) i.toNat
theorem cd_dep (i : Int) : dep (cd i) ≤ 8 := nameAt_cases (P := fun p => dep p.1 ≤ 8) (by decide) i.toNat
theorem cd_veq (i j : Int) : veq (cd i) (cd j) = decide (cl i = cl j) := by
  unfold cd cl
  refine nameAt_cases (P := fun p => veq p.1 (nameAt j.toNat).1 = decide (p.2 = (nameAt j.toNat).2)) (fun n hn => ?_) i.toNat
  refine nameAt_cases (P := fun q => veq (nameAt n).1 q.1 = decide ((nameAt n).2 = q.2)) ?_ j.toNat
  revert n
  decide
noncomputable def prV : V → Bool
  | .int _ => false
  | .str _ => false
  | _ => true
theorem cd_pr (i : Int) : prV (cd i) = true := nameAt_cases (P := fun p => prV p.1 = true) (by decide) i.toNat
theorem cl_in (i : Int) : 0 ≤ cl i ∧ cl i < 7 := nameAt_cases (P := fun p => 0 ≤ p.2 ∧ p.2 < 7) (by decide) i.toNat
end Mine
end
section
open PySem PySem.W PySem.Calls PyProof.Rows
set_option linter.unusedVariables false
namespace Mine
namespace Tb
open SetTable
noncomputable def adv (mask : Nat) (p : Probe) : Probe :=
  if p.more > 0 then { p with j := p.j + 1, more := p.more - 1 } else
  { p with j := (leap mask p.i p.perturb).1, more := runEnd mask (leap mask p.i p.perturb).1 - (leap mask p.i p.perturb).1, i := (leap mask p.i p.perturb).1, perturb := (leap mask p.i p.perturb).2 }
noncomputable def chunk (mask : Nat) (c : Nat × Nat) : Probe := { j := c.1, more := runEnd mask c.1 - c.1, i := c.1, perturb := c.2, dummy := none }
noncomputable def ch (mask : Nat) (h : Int) : Nat → Nat × Nat
  | 0 => (bits h % (mask + 1), bits h)
  | k + 1 => leap mask (ch mask h k).1 (ch mask h k).2
noncomputable def st (mask : Nat) (h : Int) : Nat → Probe
  | 0 => chunk mask (ch mask h 0)
  | n + 1 => adv mask (st mask h n)
theorem start_eq (t : SetTable) (h : Int) : t.probeStart h = st t.mask h 0 := rfl
noncomputable def nk (mask : Nat) (h : Int) : Nat → Nat
  | 0 => 0
  | k + 1 => nk mask h k + (runEnd mask (ch mask h k).1 - (ch mask h k).1) + 1
theorem st_in {mask : Nat} {h : Int} {n : Nat} {c : Nat × Nat} (e : st mask h n = chunk mask c) : ∀ k, k ≤ runEnd mask c.1 - c.1 → st mask h (n + k) = { chunk mask c with j := c.1 + k, more := runEnd mask c.1 - c.1 - k }
  | 0, _ => by rw [Nat.add_zero, e]; rfl
  | k + 1, hk => by
    rw [show n + (k + 1) = (n + k) + 1 from rfl]
    show adv mask (st mask h (n + k)) = _
    rw [st_in e k (by exact o1 hk)]
    unfold adv
    rw [if_pos (show runEnd mask c.1 - c.1 - k > 0 by exact o2 hk)]
    simp only [Probe.mk.injEq, and_self, and_true]
    exact o400
theorem st_nk (mask : Nat) (h : Int) : ∀ k, st mask h (nk mask h k) = chunk mask (ch mask h k)
  | 0 => rfl
  | k + 1 => by
    show adv mask (st mask h (nk mask h k + (runEnd mask (ch mask h k).1 - (ch mask h k).1))) = _
    rw [st_in (st_nk mask h k) _ (Nat.le_refl _)]
    unfold adv
    rw [if_neg (by show ¬ _ - _ - _ > 0; exact o4)]
    rfl
theorem runEnd_le (mask i : Nat) : i ≤ runEnd mask i ∧ runEnd mask i ≤ i + 9 := by unfold runEnd; split <;> omega
theorem runEnd_in {mask i : Nat} (h : i ≤ mask) : runEnd mask i ≤ mask := by unfold runEnd; split <;> omega
theorem nk_le (mask : Nat) (h : Int) : ∀ k, nk mask h k ≤ 10 * k
  | 0 => Nat.le_refl _
  | k + 1 => by have := nk_le mask h k; have := runEnd_le mask (ch mask h k).1; show nk mask h k + _ + 1 ≤ _; exact o301 this (by assumption)
theorem mod_in (a mask : Nat) : a % (mask + 1) ≤ mask := Nat.le_of_lt_succ (Nat.mod_lt a (Nat.succ_pos mask))
theorem ch_in (mask : Nat) (h : Int) : ∀ k, (ch mask h k).1 ≤ mask
  | 0 => mod_in _ _
  | k + 1 => mod_in _ _
theorem ch_pert (mask : Nat) (h : Int) : ∀ k, (ch mask h k).2 = bits h / 32 ^ k
  | 0 => by show bits h = _; rw [Nat.pow_zero, Nat.div_one]
  | k + 1 => by show (ch mask h k).2 / 32 = _; rw [ch_pert mask h k, Nat.div_div_eq_div_mul, ← Nat.pow_succ]
theorem bits_lt (h : Int) : bits h < 2 ^ 64 := by unfold bits; exact o302
theorem pert0 {mask : Nat} {h : Int} {k : Nat} (hk : 13 ≤ k) : (ch mask h k).2 = 0 := by
  rw [ch_pert]
  refine Nat.div_eq_of_lt (Nat.lt_of_lt_of_le (bits_lt h) ?_)
  exact Nat.le_trans (by decide) (Nat.pow_le_pow_right (by decide : 32 > 0) hk)
noncomputable def lcg (mask : Nat) : Nat → Nat → Nat
  | 0, i => i
  | m + 1, i => ((lcg mask m i) * 5 + 1) % (mask + 1)
theorem ch_lcg (mask : Nat) (h : Int) : ∀ m, (ch mask h (13 + m)).1 = lcg mask m (ch mask h 13).1
  | 0 => rfl
  | m + 1 => by
    show (((ch mask h (13 + m)).1 * 5 + 1 + (ch mask h (13 + m)).2 / 32) % (mask + 1)) = _
    rw [pert0 (by exact o6), ch_lcg mask h m]
    rfl
theorem all7 : ∀ i < 8, ∀ j < 8, ∃ m < 8, lcg 7 m i = j := by decide +kernel
noncomputable def all31b : Bool := (List.range 32).all fun i => (List.range 32).all fun j => (List.range 32).any fun m => lcg 31 m i == j
theorem all31 : ∀ i < 32, ∀ j < 32, ∃ m < 32, lcg 31 m i = j := by
  have h : all31b = true := by decide +kernel
  intro i hi j hj
  unfold all31b at h
  rw [List.all_eq_true] at h
  have h := h i (List.mem_range.mpr hi)
  rw [List.all_eq_true] at h
  have h := h j (List.mem_range.mpr hj)
  rw [List.any_eq_true] at h
  obtain ⟨m, hm, e⟩ := h
  exact ⟨m, List.mem_range.mp hm, eq_of_beq e⟩
noncomputable def Two (mask : Nat) : Prop := mask = 7 ∨ mask = 31
theorem cover {mask : Nat} (two : Two mask) (h : Int) {j : Nat} (hj : j ≤ mask) : ∃ k, k < 14 + mask ∧ (ch mask h k).1 = j := by
  rcases two with rfl | rfl
  · obtain ⟨m, hm, e⟩ := all7 (ch 7 h 13).1 (by have := ch_in 7 h 13; exact o7 this) j (by exact o7 hj)
    exact ⟨13 + m, by exact o8 hm, (ch_lcg 7 h m).trans e⟩
  · obtain ⟨m, hm, e⟩ := all31 (ch 31 h 13).1 (by have := ch_in 31 h 13; exact o9 this) j (by exact o9 hj)
    exact ⟨13 + m, by exact o10 hm, (ch_lcg 31 h m).trans e⟩
theorem cover_st {mask : Nat} (two : Two mask) (h : Int) {j : Nat} (hj : j ≤ mask) : ∃ n, n < 10 * turns mask ∧ (st mask h n).j = j := by
  obtain ⟨k, hk, e⟩ := cover two h hj
  refine ⟨nk mask h k, by have := nk_le mask h k; unfold turns; exact o11 this hk, ?_⟩
  rw [st_nk]; exact e
theorem adv_dummy (mask : Nat) (p : Probe) : (adv mask p).dummy = p.dummy := by unfold adv; split <;> rfl
theorem st_dummy (mask : Nat) (h : Int) : ∀ n, (st mask h n).dummy = none
  | 0 => rfl
  | n + 1 => (adv_dummy mask _).trans (st_dummy mask h n)
structure Gp (mask : Nat) (p : Probe) : Prop where
  i : p.i ≤ mask
  e : p.j + p.more = runEnd mask p.i
theorem adv_gp {mask : Nat} {p : Probe} (g : Gp mask p) : Gp mask (adv mask p) := by
  unfold adv
  split
  · exact ⟨g.i, by have := g.e; show p.j + 1 + (p.more - 1) = runEnd mask p.i; exact o303 this (by assumption)⟩
  · have h : (leap mask p.i p.perturb).1 ≤ mask := mod_in _ _
    exact ⟨h, by have := (runEnd_le mask (leap mask p.i p.perturb).1).1; exact Nat.add_sub_of_le this⟩
theorem st_gp (mask : Nat) (h : Int) : ∀ n, Gp mask (st mask h n)
  | 0 => ⟨ch_in mask h 0, by have := (runEnd_le mask (ch mask h 0).1).1; exact Nat.add_sub_of_le this⟩
  | n + 1 => adv_gp (st_gp mask h n)
theorem st_in_mask (mask : Nat) (h : Int) (n : Nat) : (st mask h n).j ≤ mask := by
  have g := st_gp mask h n
  have := runEnd_in g.i
  have := g.e
  exact o401 this (by assumption)
noncomputable def Up (l : List Nat) : Prop := l.Pairwise (· < ·)
theorem below_go (xs : Array Nat) (j : Nat) (up : Up xs.toList) : ∀ (f lo hi : Nat), lo ≤ hi → hi ≤ xs.size → hi - lo ≤ f → (∀ k (hk : k < xs.size), k < lo → xs[k] < j) → (∀ k (hk : k < xs.size), hi ≤ k → j ≤ xs[k]) →
    ∃ r, below.go xs j f lo hi = r ∧ r ≤ xs.size ∧ (∀ k (hk : k < xs.size), k < r → xs[k] < j) ∧ (∀ k (hk : k < xs.size), r ≤ k → j ≤ xs[k]) := by
  have mono : ∀ a b (ha : a < xs.size) (hb : b < xs.size), a ≤ b → xs[a] ≤ xs[b] := by
    intro a b ha hb hab
    rcases Nat.lt_or_eq_of_le hab with h | h
    · have := List.pairwise_iff_getElem.mp up a b (by simpa using ha) (by simpa using hb) h
      simp only [Array.getElem_toList] at this
      omega
    · subst h; exact Nat.le_refl _
  intro f
  induction f with
  | zero => intro lo hi h1 h2 h3 h4 h5; exact ⟨lo, rfl, by exact o13 h1 h2, h4, fun k hk q => h5 k hk (by exact o14 h3 q)⟩
  | succ f ih =>
    intro lo hi h1 h2 h3 h4 h5
    unfold below.go
    by_cases hl : lo < hi
    · rw [if_pos hl]
      have hm : (lo + hi) / 2 < xs.size := by exact o15 h2 hl
      have hg : xs.getD ((lo + hi) / 2) j = xs[(lo + hi) / 2] := by rw [Array.getD_eq_getD_getElem?, Array.getElem?_eq_getElem hm]; rfl
      dsimp only
      rw [hg]
      by_cases hx : xs[(lo + hi) / 2] < j
      · rw [if_pos hx]
        exact ih _ _ (by exact o16 hl) h2 (by exact o17 h3) (fun k hk q => Nat.lt_of_le_of_lt (mono k _ hk hm (by exact o18 q)) hx) h5
      · rw [if_neg hx]
        exact ih _ _ (by exact o19 hl) (by exact o20 hm) (by exact o21 h3) h4 (fun k hk q => Nat.le_trans (by exact o22 hx) (mono _ k hm hk q))
    · rw [if_neg hl]
      exact ⟨lo, rfl, by exact o13 h1 h2, h4, fun k hk q => h5 k hk (by exact o23 q hl)⟩
theorem below_spec (xs : Array Nat) (j : Nat) (up : Up xs.toList) : below xs j ≤ xs.size ∧ (∀ k (hk : k < xs.size), k < below xs j → xs[k] < j) ∧ (∀ k (hk : k < xs.size), below xs j ≤ k → j ≤ xs[k]) := by
  obtain ⟨r, e, h⟩ := below_go xs j up xs.size 0 xs.size (Nat.zero_le _) (Nat.le_refl _) (by exact o24) (fun k _ q => absurd q (Nat.not_lt_zero _)) (fun k hk q => absurd hk (Nat.not_lt.mpr q))
  unfold below
  rw [e]; exact h
theorem below_at {xs : Array Nat} {j i : Nat} (up : Up xs.toList) (h : xs[i]? = some j) : below xs j = i := by
  obtain ⟨hi, e⟩ := Array.getElem?_eq_some_iff.mp h
  obtain ⟨h1, h2, h3⟩ := below_spec xs j up
  rcases Nat.lt_trichotomy (below xs j) i with q | q | q
  · have h4 := h3 (below xs j) (by exact o25 q hi) (Nat.le_refl _)
    have := List.pairwise_iff_getElem.mp up (below xs j) i (by simp; exact o25 q hi) (by simpa using hi) q
    simp only [Array.getElem_toList] at this
    omega
  · exact q
  · have := h2 i hi q; omega
theorem slot_live {t : SetTable} {j i : Nat} (up : Up t.place.toList) (h : t.place[i]? = some j) : t.slot j = .live i := by
  unfold slot
  dsimp only
  rw [below_at up h, h]
  simp
theorem slot_empty {t : SetTable} {j : Nat} (hd : t.dummies = #[]) (h : j ∉ t.place.toList) : t.slot j = .empty := by
  unfold slot
  rw [if_neg fun q => h (by rw [Array.mem_toList_iff]; exact Array.mem_of_getElem? (eq_of_beq q)), hd]
  rfl
noncomputable abbrev Ent := Nat × Int × Value
structure TI (t : SetTable) (es : Array (Int × Value)) (ps : List Ent) : Prop where
  two : Two t.mask
  dum : t.dummies = #[]
  pl : t.place.toList = ps.map (·.1)
  es : es.toList = ps.map (·.2)
  up : Up (ps.map (·.1))
  inm : ∀ q ∈ ps, q.1 ≤ t.mask
  ln : ps.length ≤ t.mask
  reach : ∀ q ∈ ps, ∃ n, n < 10 * turns t.mask ∧ (st t.mask q.2.1 n).j = q.1 ∧ ∀ m, m < n → (st t.mask q.2.1 m).j ∈ ps.map (·.1)
theorem TI.fresh (f m : Nat) (led : Bool) : TI (.fresh f m led) #[] [] := ⟨.inl rfl, rfl, rfl, rfl, .nil, (fun _ h => by cases h), Nat.zero_le _, (fun _ h => by cases h)⟩
theorem TI.size {t : SetTable} {es : Array (Int × Value)} {ps : List Ent} (I : TI t es ps) : es.size = ps.length ∧ t.place.size = ps.length := by
  have h1 := congrArg List.length I.es
  have h2 := congrArg List.length I.pl
  simp at h1 h2
  exact ⟨h1, h2⟩
theorem TI.fits {t : SetTable} {es : Array (Int × Value)} {ps : List Ent} (I : TI t es ps) : t.fits es.size = true := by
  obtain ⟨h1, h2⟩ := I.size
  unfold SetTable.fits SetTable.fill
  rw [I.dum, h1, h2]
  have := I.ln
  simp; exact o27 this
theorem TI.plain {t : SetTable} {es : Array (Int × Value)} {ps : List Ent} (I : TI t es ps) (b : Bool) : TI { t with plain := b } es ps := ⟨I.two, I.dum, I.pl, I.es, I.up, I.inm, I.ln, I.reach⟩
structure Free (mask : Nat) (occ : List Nat) (h : Int) (n : Nat) : Prop where
  lt : n < 10 * turns mask
  no : (st mask h n).j ∉ occ
  bef : ∀ m, m < n → (st mask h m).j ∈ occ
theorem first {P : Nat → Prop} [DecidablePred P] : ∀ {n : Nat}, P n → ∃ m, m ≤ n ∧ P m ∧ ∀ k, k < m → ¬ P k := by
  intro n
  induction n using Nat.strongRecOn with
  | ind n ih =>
    intro h
    by_cases q : ∃ k, k < n ∧ P k
    · obtain ⟨k, hk, pk⟩ := q
      obtain ⟨m, h1, h2, h3⟩ := ih k hk pk
      exact ⟨m, by exact o28 h1 hk, h2, h3⟩
    · exact ⟨n, Nat.le_refl _, h, fun k hk pk => q ⟨k, hk, pk⟩⟩
theorem room {mask : Nat} {occ : List Nat} (hl : occ.length ≤ mask) : ∃ j, j ≤ mask ∧ j ∉ occ := by
  refine Classical.byContradiction fun q => ?_
  have h : ∀ j, j ≤ mask → j ∈ occ := fun j hj => Classical.byContradiction fun z => q ⟨j, hj, z⟩
  have : (List.range (mask + 1)).length ≤ occ.length := List.nodup_range.length_le_of_subset fun x hx => h x (by have := List.mem_range.mp hx; exact o29 this)
  simp at this; omega
theorem free_is {mask : Nat} (two : Two mask) {occ : List Nat} (hl : occ.length ≤ mask) (h : Int) : ∃ n, Free mask occ h n := by
  obtain ⟨j, hj, hn⟩ := room hl
  obtain ⟨n, hn', e⟩ := cover_st two h hj
  obtain ⟨m, h1, h2, h3⟩ := first (P := fun n => (st mask h n).j ∉ occ) (n := n) (by rw [e]; exact hn)
  exact ⟨m, by exact o31 h1 hn', h2, fun k hk => Classical.byContradiction (h3 k hk)⟩
theorem go_at {t : SetTable} {hashAt : Nat → Int} {h : Int} : ∀ (f n m : Nat), n ≤ m → m - n < f → (∀ k, n ≤ k → k < m → ∃ i, t.slot (st t.mask h k).j = .live i ∧ (hashAt i == h) = false) →
    (t.slot (st t.mask h m).j = .empty → probe.go t hashAt h f (st t.mask h n) = some (.empty (st t.mask h m).j none)) ∧
    (∀ i, t.slot (st t.mask h m).j = .live i → (hashAt i == h) = true → probe.go t hashAt h f (st t.mask h n) = some (.candidate (st t.mask h m).j i (st t.mask h (m + 1))))
  | 0, n, m, _, hf, _ => absurd hf (Nat.not_lt_zero _)
  | f + 1, n, m, hnm, hf, hb => by
    by_cases e : n = m
    · subst e
      refine ⟨fun q => ?_, fun i q z => ?_⟩
      · unfold probe.go; rw [q]; dsimp only; rw [st_dummy]
      · unfold probe.go; rw [q]; dsimp only; rw [if_pos z]; rfl
    · obtain ⟨i, q, z⟩ := hb n (Nat.le_refl _) (by exact o32 hnm e)
      have ih := go_at (t := t) (hashAt := hashAt) (h := h) f (n + 1) m (by exact o33 hnm e) (by exact o34 hnm hf e) fun k h1 h2 => hb k (by exact o35 h1) h2
      have step : probe.go t hashAt h (f + 1) (st t.mask h n) = probe.go t hashAt h f (st t.mask h (n + 1)) := by
        conv => lhs; unfold probe.go
        rw [q]; dsimp only; rw [if_neg (by rw [z]; exact Bool.false_ne_true)]; rfl
      rw [step]; exact ih
theorem TI.live {t : SetTable} {es : Array (Int × Value)} {ps : List Ent} (I : TI t es ps) {j : Nat} (h : j ∈ ps.map (·.1)) : ∃ i q, ps[i]? = some q ∧ q.1 = j ∧ t.slot j = .live i ∧ es[i]? = some q.2 := by
  obtain ⟨q, hq, e⟩ := List.mem_map.mp h
  obtain ⟨i, hi⟩ := List.mem_iff_getElem?.mp hq
  refine ⟨i, q, hi, e, slot_live (by rw [I.pl]; exact I.up) ?_, ?_⟩
  · rw [← Array.getElem?_toList, I.pl, List.getElem?_map, hi]; exact congrArg some e
  · rw [← Array.getElem?_toList, I.es, List.getElem?_map, hi]; rfl
theorem TI.empty {t : SetTable} {es : Array (Int × Value)} {ps : List Ent} (I : TI t es ps) {j : Nat} (h : j ∉ ps.map (·.1)) : t.slot j = .empty := slot_empty I.dum (by rw [I.pl]; exact h)
theorem TI.freeSlot {t : SetTable} {es : Array (Int × Value)} {ps : List Ent} (I : TI t es ps) {h : Int} {n : Nat} (F : Free t.mask (ps.map (·.1)) h n) : t.freeSlot h = some ((st t.mask h n).j, false) := by
  unfold SetTable.freeSlot probe
  rw [start_eq, (go_at (hashAt := fun _ => h + 1) (h := h) (10 * turns t.mask) 0 n (Nat.zero_le _) (by have := F.lt; exact o36 this) (fun k _ hk => ?_)).1 (I.empty F.no)]
  · rfl
  · obtain ⟨i, q, _, _, e, _⟩ := I.live (F.bef k hk)
    exact ⟨i, e, beq_eq_false_iff_ne.mpr (by exact o37)⟩
theorem split_at {ps : List Ent} {xs : Array Nat} {j : Nat} (e : xs.toList = ps.map (·.1)) (up : Up (ps.map (·.1))) (no : j ∉ ps.map (·.1)) : (∀ q ∈ ps.take (below xs j), q.1 < j) ∧ (∀ q ∈ ps.drop (below xs j), j < q.1) := by
  obtain ⟨h1, h2, h3⟩ := below_spec xs j (by rw [e]; exact up)
  have sz : xs.size = ps.length := by have := congrArg List.length e; simpa using this
  have at' : ∀ k (hk : k < ps.length), xs[k]'(by exact o38 sz hk) = ps[k].1 := fun k hk => by
    have : xs.toList[k]? = (ps.map (·.1))[k]? := by rw [e]
    rw [Array.getElem?_toList, Array.getElem?_eq_getElem (by exact o38 sz hk), List.getElem?_map, List.getElem?_eq_getElem hk] at this
    simpa using this
  refine ⟨fun q hq => ?_, fun q hq => ?_⟩
  · obtain ⟨k, hk, rfl⟩ := List.mem_iff_getElem.mp hq
    rw [List.length_take] at hk
    rw [List.getElem_take]
    have := h2 k (by exact o39 h1 hk) (by exact o40 hk)
    rw [at' k (by exact o41 hk)] at this
    exact this
  · obtain ⟨k, hk, rfl⟩ := List.mem_iff_getElem.mp hq
    rw [List.length_drop] at hk
    rw [List.getElem_drop]
    have h4 := h3 (below xs j + k) (by exact o42 sz hk) (by exact o43)
    rw [at' _ (by exact o44 hk)] at h4
    rcases Nat.lt_or_eq_of_le h4 with q | q
    · exact q
    · exact absurd (List.mem_map.mpr ⟨_, List.getElem_mem (by exact o44 hk), q.symm⟩) no
noncomputable def ins (ps : List Ent) (p : Nat) (q : Ent) : List Ent := ps.take p ++ q :: ps.drop p
theorem ins_perm (ps : List Ent) (p : Nat) (q : Ent) : (ins ps p q).Perm (q :: ps) := by
  refine List.perm_middle.trans (.cons _ ?_)
  rw [List.take_append_drop]
theorem TI.put {t : SetTable} {es : Array (Int × Value)} {ps : List Ent} (I : TI t es ps) {h : Int} {n : Nat} (F : Free t.mask (ps.map (·.1)) h n) (x : Value) (hl : ps.length + 1 ≤ t.mask) :
    TI (t.put (st t.mask h n).j).1 (insertAt es (t.put (st t.mask h n).j).2 (h, x)) (ins ps (t.put (st t.mask h n).j).2 ((st t.mask h n).j, h, x)) := by
  have sp := split_at I.pl I.up F.no
  have pm := ins_perm ps (below t.place (st t.mask h n).j) ((st t.mask h n).j, h, x)
  have sub : ∀ j, j ∈ ps.map (·.1) → j ∈ (ins ps (below t.place (st t.mask h n).j) ((st t.mask h n).j, h, x)).map (·.1) := fun j hj => by
    rw [(pm.map _).mem_iff, List.map_cons]; exact List.mem_cons_of_mem _ hj
  refine ⟨I.two, ?_, ?_, ?_, ?_, fun q hq => ?_, ?_, fun q hq => ?_⟩
  · show (if has t.dummies _ then _ else t.dummies) = #[]
    rw [I.dum]; rfl
  · show (insertAt t.place (below t.place _) _).toList = _
    rw [toList_insertAt, I.pl]
    show _ = (ins ps (below t.place _) _).map _
    unfold ins
    rw [List.map_append, List.map_cons, List.map_take, List.map_drop]
  · show (insertAt es (below t.place _) _).toList = (ins ps (below t.place _) _).map _
    rw [toList_insertAt, I.es]
    unfold ins
    rw [List.map_append, List.map_cons, List.map_take, List.map_drop]
  · show Up ((ins ps (below t.place _) _).map _)
    unfold ins Up
    rw [List.map_append, List.map_cons]
    have upt : (List.map (fun x : Ent => x.1) (ps.take (below t.place (st t.mask h n).j)) ++ List.map (fun x : Ent => x.1) (ps.drop (below t.place (st t.mask h n).j))).Pairwise (· < ·) := by
      rw [← List.map_append, List.take_append_drop]; exact I.up
    rw [List.pairwise_append] at upt ⊢
    refine ⟨upt.1, List.pairwise_cons.mpr ⟨fun b hb => ?_, upt.2.1⟩, fun a ha b hb => ?_⟩
    · obtain ⟨q, hq, rfl⟩ := List.mem_map.mp hb; exact sp.2 q hq
    · obtain ⟨q, hq, rfl⟩ := List.mem_map.mp ha
      rcases List.mem_cons.mp hb with rfl | hb
      · exact sp.1 q hq
      · exact upt.2.2 _ ha b hb
  · rcases List.mem_cons.mp (pm.mem_iff.mp hq) with rfl | hq
    · exact st_in_mask _ _ _
    · exact I.inm q hq
  · show (ins ps (below t.place _) _).length ≤ t.mask
    rw [pm.length_eq]; exact hl
  · rcases List.mem_cons.mp (pm.mem_iff.mp hq) with rfl | hq
    · exact ⟨n, F.lt, rfl, fun m hm => sub _ (F.bef m hm)⟩
    · obtain ⟨n', h1, h2, h3⟩ := I.reach q hq
      exact ⟨n', h1, h2, fun m hm => sub _ (h3 m hm)⟩
end Tb
end Mine
end
section
open PySem PySem.W PySem.Calls PyProof.Rows
set_option linter.unusedVariables false
namespace Mine
namespace Tb
open SetTable
theorem free_ok {mask : Nat} {owner : Array (Option Nat)} {occ : List Nat} (ho : ∀ j, j ≤ mask → ((owner.getD j (some 0)).isNone = true ↔ j ∉ occ)) {h : Int} : ∀ (f c : Nat), (∀ m, m < nk mask h c → (st mask h m).j ∈ occ) →
    (∃ k, c ≤ k ∧ k < c + f ∧ (ch mask h k).1 ∉ occ) → c + f ≤ turns mask → ∃ n, Free mask occ h n ∧ layClean.free mask owner f (ch mask h c).1 (ch mask h c).2 = some (st mask h n).j
  | 0, c, _, ⟨k, h1, h2, _⟩, _ => by omega
  | f + 1, c, hb, ⟨k, h1, h2, h3⟩, hf => by
    have ci := ch_in mask h c
    have re := runEnd_le mask (ch mask h c).1
    have ri := runEnd_in ci
    have sj : ∀ k, k ≤ runEnd mask (ch mask h c).1 - (ch mask h c).1 → (st mask h (nk mask h c + k)).j = (ch mask h c).1 + k := fun k hk => by rw [st_in (st_nk mask h c) k hk]
    have nc := nk_le mask h c
    unfold layClean.free
    cases q : (List.range (runEnd mask (ch mask h c).1 + 1 - (ch mask h c).1)).find? fun k => (owner.getD ((ch mask h c).1 + k) (some 0)).isNone with
    | some k' =>
      rw [List.find?_range_eq_some] at q
      obtain ⟨q1, q2, q3⟩ := q
      rw [List.mem_range] at q2
      refine ⟨nk mask h c + k', ⟨by exact o45 re hf nc q2, ?_, fun m hm => ?_⟩, ?_⟩
      · rw [sj k' (by exact o46 q2)]; exact (ho _ (by exact o47 ri q2)).mp q1
      · by_cases z : m < nk mask h c
        · exact hb m z
        · have := q3 (m - nk mask h c) (by exact o48 hm z)
          have e : m = nk mask h c + (m - nk mask h c) := by exact o49 z
          rw [e, sj _ (by exact o404 q2 hm)]
          refine Classical.byContradiction fun w => ?_
          rw [(ho _ (by exact o51 ri q2 hm)).mpr w] at this
          cases this
      · dsimp only; rw [sj k' (by exact o46 q2)]
    | none =>
      rw [List.find?_eq_none] at q
      have all : ∀ k, k ≤ runEnd mask (ch mask h c).1 - (ch mask h c).1 → (ch mask h c).1 + k ∈ occ := fun k hk => Classical.byContradiction fun w => q k (List.mem_range.mpr (by exact o52 re hk)) ((ho _ (by exact o53 re ri hk)).mpr w)
      have kc : k ≠ c := fun e => h3 (by rw [e]; exact all 0 (Nat.zero_le _))
      exact free_ok ho f (c + 1) (fun m hm => by
        have hm : m < nk mask h c + (runEnd mask (ch mask h c).1 - (ch mask h c).1) + 1 := hm
        by_cases z : m < nk mask h c
        · exact hb m z
        · have e : m = nk mask h c + (m - nk mask h c) := by exact o49 z
          rw [e, sj _ (by exact o405 hm)]
          exact all _ (by exact o54 hm)) ⟨k, by exact o55 h1 kc, by exact o56 h2, h3⟩ (by exact o57 hf)
structure LC (mask : Nat) (owner : Array (Option Nat)) (js : List Nat) (hs : List Int) : Prop where
  sz : owner.size = mask + 1
  own : ∀ (j : Nat), j ≤ mask → ∀ (i : Nat), owner[j]? = some (some i) ↔ js[i]? = some j
  nd : js.Nodup
  inm : ∀ j ∈ js, j ≤ mask
  ln : js.length = hs.length
  reach : ∀ (i j : Nat) (h : Int), js[i]? = some j → hs[i]? = some h → ∃ n, n < 10 * turns mask ∧ (st mask h n).j = j ∧ ∀ m, m < n → (st mask h m).j ∈ js
theorem LC.isNone {mask : Nat} {owner : Array (Option Nat)} {js : List Nat} {hs : List Int} (L : LC mask owner js hs) (j : Nat) (hj : j ≤ mask) : (owner.getD j (some 0)).isNone = true ↔ j ∉ js := by
  have hs : j < owner.size := by rw [L.sz]; exact o58 hj
  rw [Array.getD_eq_getD_getElem?, Array.getElem?_eq_getElem hs, Option.getD_some, Option.isNone_iff_eq_none]
  constructor
  · intro e hm
    obtain ⟨i, hi⟩ := List.mem_iff_getElem?.mp hm
    have := (L.own j hj i).mpr hi
    rw [Array.getElem?_eq_getElem hs, e] at this
    cases this
  · intro hn
    cases q : owner[j] with
    | none => rfl
    | some i => exact absurd (List.mem_of_getElem? ((L.own j hj i).mp (by rw [Array.getElem?_eq_getElem hs, q]))) hn
theorem LC.step {mask : Nat} (two : Two mask) {owner : Array (Option Nat)} {js : List Nat} {hs : List Int} (L : LC mask owner js hs) (hl : js.length ≤ mask) (h : Int) :
    ∃ j, layClean.free mask owner (turns mask) (bits h % (mask + 1)) (bits h) = some j ∧ LC mask (owner.setIfInBounds j (some js.length)) (js ++ [j]) (hs ++ [h]) := by
  obtain ⟨j₀, hj₀, no₀⟩ := room hl
  obtain ⟨k, hk, e⟩ := cover two h hj₀
  obtain ⟨n, F, ef⟩ := free_ok (h := h) (fun j hj => L.isNone j hj) (turns mask) 0 (fun m hm => absurd hm (Nat.not_lt_zero _)) ⟨k, Nat.zero_le _, by unfold turns; exact o59 hk, by rw [e]; exact no₀⟩ (by exact o60)
  refine ⟨_, ef, ?_⟩
  have jm := st_in_mask mask h n
  generalize ej : (st mask h n).j = j at *
  have no : j ∉ js := by rw [← ej]; exact F.no
  have hjs : j < owner.size := by rw [L.sz]; exact o58 jm
  refine ⟨by rw [Array.size_setIfInBounds]; exact L.sz, fun j' hj' i => ?_, ?_, fun j' hj' => ?_, by rw [List.length_append, List.length_append, L.ln]; rfl, fun i j' h' e1 e2 => ?_⟩
  · rw [Array.getElem?_setIfInBounds]
    by_cases q : j = j'
    · subst q
      rw [if_pos rfl, if_pos hjs, Option.some.injEq, Option.some.injEq]
      constructor
      · rintro rfl; simp
      · intro hi
        rcases Nat.lt_trichotomy i js.length with z | z | z
        · rw [List.getElem?_append_left z] at hi; exact absurd (List.mem_of_getElem? hi) no
        · exact z.symm
        · rw [List.getElem?_eq_none (by simp; exact o61 z)] at hi; cases hi
    · rw [if_neg q, L.own j' hj' i]
      constructor
      · intro hi; rw [List.getElem?_append_left (List.getElem?_eq_some_iff.mp hi).1]; exact hi
      · intro hi
        rcases Nat.lt_trichotomy i js.length with z | z | z
        · rw [List.getElem?_append_left z] at hi; exact hi
        · subst z; simp at hi; exact absurd hi q
        · rw [List.getElem?_eq_none (by simp; exact o61 z)] at hi; cases hi
  · rw [List.nodup_append]; exact ⟨L.nd, by simp, fun a ha b hb => by rw [List.mem_singleton] at hb; subst hb; exact fun q => no (q ▸ ha)⟩
  · rcases List.mem_append.mp hj' with q | q
    · exact L.inm _ q
    · rw [List.mem_singleton] at q; subst q; exact jm
  · rcases Nat.lt_trichotomy i js.length with z | z | z
    · rw [List.getElem?_append_left z] at e1
      rw [List.getElem?_append_left (by rw [← L.ln]; exact z)] at e2
      obtain ⟨n', a, b, c⟩ := L.reach i j' h' e1 e2
      exact ⟨n', a, b, fun m hm => List.mem_append_left _ (c m hm)⟩
    · rw [z] at e1 e2
      simp at e1
      rw [L.ln] at e2
      simp at e2
      subst e1 e2
      exact ⟨n, F.lt, ej, fun m hm => List.mem_append_left _ (F.bef m hm)⟩
    · rw [List.getElem?_eq_none (by simp; exact o61 z)] at e1; cases e1
theorem lay_fold {mask : Nat} (two : Two mask) : ∀ (rest : List Int) (owner : Array (Option Nat)) (js : List Nat) (hs : List Int), LC mask owner js hs → js.length + rest.length ≤ mask + 1 →
    ∃ owner' js', (rest.foldl (fun (acc : Option (Array (Option Nat) × Nat)) h => do
      let (owner, k) ← acc
      let j ← layClean.free mask owner (turns mask) (bits h % (mask + 1)) (bits h)
      pure (owner.setIfInBounds j (some k), k + 1)) (some (owner, js.length))) = some (owner', js'.length) ∧ LC mask owner' js' (hs ++ rest)
  | [], owner, js, hs, L, _ => ⟨owner, js, rfl, by rw [List.append_nil]; exact L⟩
  | h :: rest, owner, js, hs, L, hl => by
    obtain ⟨j, e, L'⟩ := L.step two (by simp at hl; exact o62 hl) h
    obtain ⟨o', js', e', L''⟩ := lay_fold two rest _ _ _ L' (by simp at hl ⊢; exact o63 hl)
    refine ⟨o', js', ?_, by rw [List.append_assoc] at L''; exact L''⟩
    rw [List.foldl_cons]
    rw [show (js ++ [j]).length = js.length + 1 by simp] at e'
    rw [← e']
    congr 1
    show (layClean.free mask owner (turns mask) (bits h % (mask + 1)) (bits h) >>= _) = _
    rw [e]; rfl
theorem LC.nil (mask : Nat) : LC mask (Array.replicate (mask + 1) none) [] [] := ⟨by simp, (fun j hj i => by simp [Array.getElem?_replicate]), .nil, (fun _ h => by cases h), rfl, (fun i j h e => by simp at e)⟩
theorem layClean_ok {mask : Nat} (two : Two mask) (hs : Array Int) (hl : hs.size ≤ mask + 1) : ∃ owner js, layClean mask hs = some owner ∧ LC mask owner js hs.toList := by
  obtain ⟨o, js, e, L⟩ := lay_fold two hs.toList _ [] [] (LC.nil mask) (by simpa using hl)
  refine ⟨o, js, ?_, by simpa using L⟩
  unfold layClean
  rw [← Array.foldl_toList]
  exact congrArg (Option.map (·.1)) e
noncomputable def liveOf (mask : Nat) (owner : Array (Option Nat)) : List (Nat × Nat) := (List.range (mask + 1)).filterMap fun j => (owner.getD j none).map (j, ·)
theorem live_up (mask : Nat) (owner : Array (Option Nat)) : Up ((liveOf mask owner).map (·.1)) := by
  have : (liveOf mask owner).map (·.1) = (List.range (mask + 1)).filter fun j => (owner.getD j none).isSome := by
    unfold liveOf
    rw [List.map_filterMap]
    induction List.range (mask + 1) with
    | nil => rfl
    | cons a l ih =>
      rw [List.filterMap_cons, List.filter_cons, ih]
      cases owner.getD a none <;> rfl
  rw [this]
  exact List.Pairwise.sublist List.filter_sublist List.pairwise_lt_range
theorem LC.live {mask : Nat} {owner : Array (Option Nat)} {js : List Nat} {hs : List Int} (L : LC mask owner js hs) (j i : Nat) : (j, i) ∈ liveOf mask owner ↔ js[i]? = some j := by
  unfold liveOf
  rw [List.mem_filterMap]
  constructor
  · rintro ⟨j', hj', e⟩
    rw [Option.map_eq_some_iff] at e
    obtain ⟨i', e, q⟩ := e
    cases q
    rw [List.mem_range] at hj'
    refine (L.own j (by exact o29 hj') i).mp ?_
    rw [Array.getD_eq_getD_getElem?] at e
    cases z : owner[j]? with
    | none => rw [z] at e; cases e
    | some o => rw [z] at e; exact congrArg some e
  · intro e
    have hj := L.inm j (List.mem_of_getElem? e)
    refine ⟨j, List.mem_range.mpr (by exact o58 hj), ?_⟩
    rw [Array.getD_eq_getD_getElem?, (L.own j hj i).mpr e]
    rfl
theorem LC.order {mask : Nat} {owner : Array (Option Nat)} {js : List Nat} {hs : List Int} (L : LC mask owner js hs) : ((liveOf mask owner).map (·.2)).Perm (List.range hs.length) := by
  have up := live_up mask owner
  refine (List.perm_ext_iff_of_nodup ?_ List.nodup_range).mpr fun i => ?_
  · have nd : (liveOf mask owner).Pairwise fun a b => a.1 < b.1 := List.pairwise_map.mp up
    refine List.pairwise_map.mpr (nd.imp_of_mem fun {a b} ha hb h q => ?_)
    have e1 := (L.live a.1 a.2).mp ha
    have e2 := (L.live b.1 b.2).mp hb
    rw [q, e2, Option.some.injEq] at e1
    omega
  · rw [List.mem_map, List.mem_range, ← L.ln]
    constructor
    · rintro ⟨⟨j, i'⟩, h, rfl⟩
      exact (List.getElem?_eq_some_iff.mp ((L.live j i').mp h)).1
    · intro h
      exact ⟨(js[i], i), (L.live _ _).mpr (List.getElem?_eq_getElem h), rfl⟩
theorem TI.relaid {t : SetTable} {es : Array (Int × Value)} {ps : List Ent} (I : TI t es ps) (hl : ps.length ≤ 18) (wanted : Nat) (hw : sizeAbove wanted = 32) :
    ∃ t' order ps', t.relaid (es.map (·.1)) wanted = some (t', order) ∧ order.toList.Perm (List.range es.size) ∧ TI t' (order.filterMap (es[·]?)) ps' ∧ (ps'.map (·.2)).Perm (ps.map (·.2)) ∧ t'.mask = 31 ∧ t'.led = t.led := by
  obtain ⟨s1, s2⟩ := I.size
  obtain ⟨owner, js, e, L⟩ := layClean_ok (mask := 31) (.inr rfl) (es.map (·.1)) (by simp; exact o64 s1 hl)
  have hsl : (es.map (·.1)).toList.length = es.size := by simp
  have po := L.order
  rw [hsl] at po
  have oin : ∀ q ∈ liveOf 31 owner, q.2 < es.size := fun q hq => List.mem_range.mp (po.mem_iff.mp (List.mem_map_of_mem hq))
  refine ⟨{ mask := 31, place := ((liveOf 31 owner).map (·.1)).toArray, dummies := #[], finger := t.finger, led := t.led, moves := t.movedTo 31, plain := t.plain }, ((liveOf 31 owner).map (·.2)).toArray, (liveOf 31 owner).filterMap fun q => (es[q.2]?).map (q.1, ·), ?_, ?_, ⟨.inr rfl, rfl, ?_, ?_, ?_, fun q hq => ?_, ?_, fun q hq => ?_⟩, ?_, rfl, rfl⟩
  · unfold SetTable.relaid laid
    rw [hw]
    show (layClean 31 _ >>= _) = _
    rw [e]; rfl
  · exact po
  · show (liveOf 31 owner).map (·.1) = _
    rw [List.map_filterMap]
    generalize liveOf 31 owner = l at oin
    induction l with
    | nil => rfl
    | cons a l ih =>
      have := oin a List.mem_cons_self
      rw [List.filterMap_cons, Array.getElem?_eq_getElem this, List.map_cons]
      exact congrArg _ (ih fun q hq => oin q (List.mem_cons_of_mem _ hq))
  · rw [Array.toList_filterMap]
    show ((liveOf 31 owner).map (·.2)).filterMap _ = _
    rw [List.filterMap_map, List.map_filterMap]
    refine congrArg (fun f => List.filterMap f _) (funext fun q => ?_)
    show es[q.2]? = _
    cases es[q.2]? <;> rfl
  · have : ((liveOf 31 owner).filterMap fun q => (es[q.2]?).map (q.1, ·)).map (·.1) = (liveOf 31 owner).map (·.1) := by
      rw [List.map_filterMap]
      generalize liveOf 31 owner = l at oin
      induction l with
      | nil => rfl
      | cons a l ih =>
        have := oin a List.mem_cons_self
        rw [List.filterMap_cons, Array.getElem?_eq_getElem this, List.map_cons]
        exact congrArg _ (ih fun q hq => oin q (List.mem_cons_of_mem _ hq))
    rw [this]; exact live_up 31 owner
  · obtain ⟨⟨j, i⟩, hm, z⟩ := List.mem_filterMap.mp hq
    rw [Option.map_eq_some_iff] at z
    obtain ⟨e', _, rfl⟩ := z
    exact L.inm j (List.mem_of_getElem? ((L.live j i).mp hm))
  · refine Nat.le_trans (List.length_filterMap_le ..) ?_
    have := po.length_eq
    simp at this
    show _ ≤ 31
    exact o406 s1 this hl
  · obtain ⟨⟨j, i⟩, hm, z⟩ := List.mem_filterMap.mp hq
    rw [Option.map_eq_some_iff] at z
    obtain ⟨e', ee, rfl⟩ := z
    have ej := (L.live j i).mp hm
    obtain ⟨n, a, b, c⟩ := L.reach i j e'.1 ej (by rw [Array.getElem?_toList, Array.getElem?_map, ee]; rfl)
    refine ⟨n, a, b, fun m hm => ?_⟩
    obtain ⟨i', hi'⟩ := List.mem_iff_getElem?.mp (c m hm)
    have hm' := (L.live _ i').mpr hi'
    have := oin _ hm'
    exact List.mem_map.mpr ⟨(_, es[i']), List.mem_filterMap.mpr ⟨_, hm', by rw [Array.getElem?_eq_getElem this]; rfl⟩, rfl⟩
  · rw [← I.es, ← filterMap_getElem?_range, List.map_filterMap]
    refine List.Perm.trans ?_ (po.filterMap fun i => es[i]?)
    rw [List.filterMap_map]
    refine .of_eq (congrArg (fun f => List.filterMap f _) (funext fun q => ?_))
    show Option.map _ (Option.map _ es[q.2]?) = es[q.2]?
    cases es[q.2]? <;> rfl
end Tb
end Mine
end
section
open PySem PySem.W PySem.Calls PyProof.Rows
set_option linter.unusedSectionVars false
namespace Mine
noncomputable def viewCls : List String := ["dict_values", "dict_items"]
noncomputable abbrev viewObj (c : String) (d : Addr) : Obj := { cls := .type c, data := .fields #[.ref d] }
noncomputable abbrev tupObj (vs : List Value) (ep : Nat) : Obj := { cls := .type "tuple", data := .seq vs.toArray ep }
noncomputable abbrev rngObj (a b c : Int) (t u v : Tok) : Obj := { cls := .type "range", data := .fields #[.int a t, .int b u, .int c v] }
class Dead where
  bad : List Addr
noncomputable def Dz : Type := Dead
variable [ζ : Dead]
noncomputable abbrev okA (a : Addr) : Prop := a ∉ ζ.bad
inductive Imm (x : Addr) : Obj → Prop where
  | tup (vs : List Value) (ep : Nat) : okA x → Imm x (tupObj vs ep)
  | rng (a b c : Int) (t u v : Tok) : Imm x (rngObj a b c t u v)
  | view (c : String) (d : Addr) : viewCls.contains c = true → Imm x (viewObj c d)
noncomputable def immC : Value → Bool
  | .type n => n == "tuple" || n == "range" || viewCls.contains n
  | _ => false
theorem Imm.cls {a : Addr} {o : Obj} (i : Imm a o) : immC o.cls = true := by
  cases i with
  | tup => rfl
  | rng => rfl
  | view c d h => show (c == "tuple" || c == "range" || viewCls.contains c) = true; rw [h, Bool.or_true]
theorem Imm.data {a : Addr} {o : Obj} (i : Imm a o) : (∀ es ep, o.data ≠ .dict es ep) ∧ ∀ v, o.data ≠ .cell v := by
  cases i <;> exact ⟨(fun _ _ q => by cases q), (fun _ q => by cases q)⟩
noncomputable abbrev lstObj (vs : List Value) (ep : Nat) : Obj := { cls := .type "list", data := .seq vs.toArray ep }
mutual
noncomputable def VR (h : Heap) : V → Value → Prop
  | .none, v => v = .none
  | .bool b, v => v = .bool b
  | .int n, v => ∃ t, v = .int n t
  | .str x, v => ∃ t, v = .str x t
  | .tup xs, v => ∃ a vs ep, v = .ref a ∧ h.get? a = some (tupObj vs ep) ∧ VRs h xs vs ∧ okA a
  | .rng x y z, v => ∃ a t u w, v = .ref a ∧ h.get? a = some (rngObj x y z t u w)
  | .view c d, v => ∃ a, v = .ref a ∧ viewCls.contains c = true ∧ h.get? a = some (viewObj c d)
  | .ref a, v => v = .ref a
  | .cst w, v => v = w
  | .pint n, v => ∃ t, v = .int n (t + 1)
  | .pstr x, v => ∃ t, v = .str x (t + 1)
noncomputable def VRs (h : Heap) : List V → List Value → Prop
  | [], vs => vs = []
  | x :: xs, vs => ∃ v r, vs = v :: r ∧ VR h x v ∧ VRs h xs r
end
theorem VRs.length {h : Heap} : ∀ {xs : List V} {vs : List Value}, VRs h xs vs → vs.length = xs.length
  | [], _, e => by unfold VRs at e; rw [e]; rfl
  | _ :: _, _, e => by
    obtain ⟨v, r, rfl, _, hr⟩ := e
    rw [List.length_cons, List.length_cons, VRs.length hr]
theorem Imm.ok {a : Addr} {vs : List Value} {ep : Nat} (i : Imm a (tupObj vs ep)) : okA a := by
  generalize e : tupObj vs ep = o at i
  cases i with
  | tup _ _ z => exact z
  | rng => exact absurd (congrArg Obj.cls e) (by simp)
  | view c d h =>
    have := congrArg Obj.cls e
    simp only [Value.type.injEq] at this
    subst this
    exact absurd h (by decide)
omit ζ in
mutual
theorem VR.shift {ζ ζ' : Dead} {h h' : Heap} (k : ∀ a o, @Imm ζ a o → h.get? a = some o → h'.get? a = some o) (q : ∀ a o, @Imm ζ a o → h.get? a = some o → @Imm ζ' a o) : ∀ (x : V) (v : Value), @VR ζ h x v → @VR ζ' h' x v
  | .none, _, e => by unfold VR at e ⊢; exact e
  | .bool _, _, e => by unfold VR at e ⊢; exact e
  | .int _, _, e => by unfold VR at e ⊢; exact e
  | .str _, _, e => by unfold VR at e ⊢; exact e
  | .ref _, _, e => by unfold VR at e ⊢; exact e
  | .cst _, _, e => by unfold VR at e ⊢; exact e
  | .pint _, _, e => by unfold VR at e ⊢; exact e
  | .pstr _, _, e => by unfold VR at e ⊢; exact e
  | .tup xs, _, e => by
    obtain ⟨a, vs, ep, rfl, ha, hr, z⟩ := e
    exact ⟨a, vs, ep, rfl, k a _ (@Imm.tup ζ a vs ep z) ha, VRs.shift k q xs vs hr, Imm.ok (q a _ (@Imm.tup ζ a vs ep z) ha)⟩
  | .rng _ _ _, _, e => by
    obtain ⟨a, t, u, w, rfl, ha⟩ := e
    exact ⟨a, t, u, w, rfl, k a _ (@Imm.rng ζ a ..) ha⟩
  | .view c d, _, e => by
    obtain ⟨a, rfl, hc, ha⟩ := e
    exact ⟨a, rfl, hc, k a _ (@Imm.view ζ a c d hc) ha⟩
theorem VRs.shift {ζ ζ' : Dead} {h h' : Heap} (k : ∀ a o, @Imm ζ a o → h.get? a = some o → h'.get? a = some o) (q : ∀ a o, @Imm ζ a o → h.get? a = some o → @Imm ζ' a o) : ∀ (xs : List V) (vs : List Value), @VRs ζ h xs vs → @VRs ζ' h' xs vs
  | [], _, e => by unfold VRs at e ⊢; exact e
  | x :: xs, _, e => by
    obtain ⟨v, r, rfl, hx, hr⟩ := e
    exact ⟨v, r, rfl, VR.shift k q x v hx, VRs.shift k q xs r hr⟩
end
theorem VR.mono {h h' : Heap} (k : ∀ a o, Imm a o → h.get? a = some o → h'.get? a = some o) (x : V) (v : Value) (r : VR h x v) : VR h' x v := VR.shift k (fun _ _ i _ => i) x v r
theorem VRs.mono {h h' : Heap} (k : ∀ a o, Imm a o → h.get? a = some o → h'.get? a = some o) (x : List V) (v : List Value) (r : VRs h x v) : VRs h' x v := VRs.shift k (fun _ _ i _ => i) x v r
theorem VRs.nil_iff {h : Heap} {vs : List Value} : VRs h [] vs ↔ vs = [] := by unfold VRs; exact Iff.rfl
theorem VRs.nil' {h : Heap} : VRs h [] [] := by unfold VRs; rfl
theorem VRs.cons {h : Heap} {x : V} {xs : List V} {v : Value} {vs : List Value} (a : VR h x v) (b : VRs h xs vs) : VRs h (x :: xs) (v :: vs) := by
  unfold VRs; exact ⟨v, vs, rfl, a, b⟩
theorem VRs.uncons {h : Heap} {x : V} {xs : List V} {vs : List Value} (e : VRs h (x :: xs) vs) : ∃ v r, vs = v :: r ∧ VR h x v ∧ VRs h xs r := by
  unfold VRs at e; exact e
theorem VRs.append {h : Heap} : ∀ {xs ys : List V} {vs ws : List Value}, VRs h xs vs → VRs h ys ws → VRs h (xs ++ ys) (vs ++ ws)
  | [], _, _, _, e, f => by rw [VRs.nil_iff] at e; subst e; exact f
  | _ :: _, _, _, _, e, f => by obtain ⟨v, r, rfl, hx, hr⟩ := e.uncons; exact .cons hx (VRs.append hr f)
theorem VRs.getElem? {h : Heap} : ∀ {xs : List V} {vs : List Value}, VRs h xs vs → ∀ {i : Nat} {x : V}, xs[i]? = some x → ∃ v, vs[i]? = some v ∧ VR h x v
  | [], _, _, _, _, e => by simp at e
  | y :: ys, vs, hr, i, x, e => by
    obtain ⟨v, r, rfl, hx, hr⟩ := hr.uncons
    cases i with
    | zero => simp only [List.getElem?_cons_zero, Option.some.injEq] at e ⊢; subst e; exact ⟨v, rfl, hx⟩
    | succ j => simp only [List.getElem?_cons_succ] at e ⊢; exact hr.getElem? e
inductive O where
  | list (xs : List V)
  | dict (es : List (Int × V)) (ep : Nat)
  | inst (C dx : Addr)
  | ns (fs : List (Str × V))
  | node (C : Addr) (xs : List V)
  | iter (l : Addr) (i : Nat)
  | bound (id : String) (self : Addr)
  | set (S : Int → Bool) (n : Nat)
  | exc (cls : Value) (args : List V)
noncomputable abbrev AH := Addr → Option O
noncomputable abbrev Loc := Str → Option V
noncomputable def put (H : AH) (a : Addr) (o : O) : AH := fun b => if b = a then some o else H b
noncomputable def setL (m : Loc) (x : Str) (v : V) : Loc := fun y => if y = x then some v else m y
noncomputable def delL (m : Loc) (x : Str) : Loc := fun y => if y = x then Option.none else m y
theorem put_self (H : AH) (a : Addr) (o : O) : put H a o a = some o := if_pos rfl
theorem put_ne (H : AH) {a b : Addr} (o : O) (e : b ≠ a) : put H a o b = H b := if_neg e
structure G where
  prog : Program
  w : World
  B : Heap
  K : Frag
  mg : Str → Option Value
  mb : Str → Option Value
  os : OsState
  kin : K.In B
  glob : B.Ns mainGlobals mg
  blt : B.Ns builtinsNs mb
  nolim : B.NoLimit
  sysm : ∃ o, B.get? sysModules = some o
structure Fm where
  A : Around
  env : Env
  stack : List Env
  mine : List Addr
  lvl : Nat
noncomputable def Fm.fr (F : Fm) : List Addr := F.stack.filterMap (·.frame)
noncomputable def ER (P : Params) (h : Heap) : List (Int × V) → List DictEntry → Prop
  | [], ds => ds = []
  | e :: es, ds => ∃ key v r, ds = ⟨hV P (cd e.1), key, v⟩ :: r ∧ VR h (cd e.1) key ∧ VR h e.2 v ∧ ER P h es r
noncomputable def SR (P : Params) (h : Heap) : List Int → List (Int × Value) → Prop
  | [], es => es = []
  | u :: us, es => ∃ v r, es = (hV P (cd u), v) :: r ∧ VR h (cd u) v ∧ SR P h us r
noncomputable def DictV (P : Params) (h : Heap) (a : Addr) (es : List (Int × V)) (ep : Nat) : Prop := ∃ o ds, h.get? a = some o ∧ o.ExactDict ∧ o.data = .dict ds ep ∧ ER P h es ds.toList ∧ (es.map fun e => cl e.1).Nodup
structure SetS (P : Params) (h : Heap) (T : Int → Bool) (n : Nat) (es : Array (Int × Value)) (t : SetTable) (ps : List Tb.Ent) (us : List Int) : Prop where
  ti : Tb.TI t es ps
  room : 5 * n < 3 * t.mask
  sr : SR P h us (ps.map (·.2))
  nd : (us.map cl).Nodup
  len : us.length = n
  mem : ∀ c, T c = true ↔ c ∈ us.map cl
noncomputable def SetV (P : Params) (h : Heap) (a : Addr) (T : Int → Bool) (n : Nat) : Prop := ∃ o es ep t ps us, h.get? a = some o ∧ o.ExactSet ∧ o.data = .set es ep t ∧ SetS P h T n es t ps us
noncomputable def NsR (h : Heap) : List (Str × V) → List DictEntry → Prop
  | [], es => es = []
  | f :: fs, es => ∃ hs t v r, es = ⟨hs, .str f.1 t, v⟩ :: r ∧ VR h f.2 v ∧ NsR h fs r
noncomputable def SlR (h : Heap) : List V → List (Option Value) → Prop
  | [], sl => sl = []
  | x :: xs, sl => ∃ v r, sl = some v :: r ∧ VR h x v ∧ SlR h xs r
noncomputable abbrev boundObj (id : String) (self : Addr) : Obj := { cls := .type "method-wrapper", data := .fields #[.builtin id, .ref self] }
noncomputable abbrev iterObj (l : Addr) (i : Nat) : Obj := { cls := .type "list_iterator", data := .fields #[.ref l, .int i 0] }
noncomputable abbrev nodeObj (C dx : Addr) (sl : List (Option Value)) : Obj := { cls := .ref C, dict := some dx, data := .plain, slots := sl.toArray }
noncomputable def OH (g : G) (h : Heap) (a : Addr) : O → Prop
  | .list xs => ∃ vs ep, h.get? a = some (lstObj vs ep) ∧ VRs h xs vs
  | .dict es ep => DictV g.w.params h a es ep
  | .inst C dx => h.get? a = some (instObj C dx)
  | .ns fs => ∃ es n, h.get? a = some (dictOf es n) ∧ NsR h fs es
  | .node C xs => ∃ dx sl, h.get? a = some (nodeObj C dx sl) ∧ SlR h xs sl ∧ ∃ o es ep, h.get? dx = some o ∧ o.data = .dict es ep
  | .iter l i => h.get? a = some (iterObj l i)
  | .bound id self => h.get? a = some (boundObj id self)
  | .set S n => SetV g.w.params h a S n
  | .exc c as => ∃ o vs v, h.get? a = some o ∧ o.cls = c ∧ immC c = false ∧ o.data = .fields vs ∧ vs[0]? = some v ∧ VR h (.tup as) v
noncomputable def Dct (h h' : Heap) : Prop := ∀ b o es ep, h.get? b = some o → o.data = .dict es ep → ∃ o' es' ep', h'.get? b = some o' ∧ o'.data = .dict es' ep'
theorem Dct.refl (h : Heap) : Dct h h := fun _ o es ep e d => ⟨o, es, ep, e, d⟩
theorem Dct.trans {a b c : Heap} (x : Dct a b) (y : Dct b c) : Dct a c := fun _ _ _ _ e d => (x _ _ _ _ e d).elim fun _ qq1 => qq1.elim fun _ qq2 => qq2.elim fun _ qq3 => qq3.elim fun e' d' => y _ _ _ _ e' d'
theorem Dct.ext {h h' : Heap} (k : ∀ b o, h.get? b = some o → h'.get? b = some o) : Dct h h' := fun b o es ep e d => ⟨o, es, ep, k b o e, d⟩
structure Mono (h h' : Heap) : Prop where
  tup : ∀ a o, Imm a o → h.get? a = some o → h'.get? a = some o
  dct : Dct h h'
structure MonoZ (ζ ζ' : Dead) (h h' : Heap) : Prop where
  tup : ∀ a o, @Imm ζ a o → h.get? a = some o → h'.get? a = some o
  dct : Dct h h'
  imm : ∀ a o, @Imm ζ a o → h.get? a = some o → @Imm ζ' a o
theorem Mono.z {h h' : Heap} (k : Mono h h') : MonoZ ζ ζ h h' := ⟨k.tup, k.dct, fun _ _ i _ => i⟩
omit ζ in
theorem ER.shift {ζ ζ' : Dead} {P : Params} {h h' : Heap} (k : MonoZ ζ ζ' h h') : ∀ (es : List (Int × V)) (ds : List DictEntry), @ER ζ P h es ds → @ER ζ' P h' es ds
  | [], _, e => e
  | _ :: es, _, ⟨key, v, r, e, hk, hv, hr⟩ => ⟨key, v, r, e, hk.shift k.tup k.imm, hv.shift k.tup k.imm, ER.shift k es r hr⟩
omit ζ in
theorem SR.shift {ζ ζ' : Dead} {P : Params} {h h' : Heap} (k : MonoZ ζ ζ' h h') : ∀ (us : List Int) (es : List (Int × Value)), @SR ζ P h us es → @SR ζ' P h' us es
  | [], _, e => e
  | _ :: us, _, ⟨v, r, e, hv, hr⟩ => ⟨v, r, e, hv.shift k.tup k.imm, SR.shift k us r hr⟩
omit ζ in
theorem SetS.shift {ζ ζ' : Dead} {P : Params} {h h' : Heap} {T : Int → Bool} {n : Nat} {es : Array (Int × Value)} {t : SetTable} {ps : List Tb.Ent} {us : List Int} (k : MonoZ ζ ζ' h h') (x : @SetS ζ P h T n es t ps us) : @SetS ζ' P h' T n es t ps us := @SetS.mk ζ' _ _ _ _ _ _ _ _ (@SetS.ti ζ _ _ _ _ _ _ _ _ x) (@SetS.room ζ _ _ _ _ _ _ _ _ x) (SR.shift k _ _ (@SetS.sr ζ _ _ _ _ _ _ _ _ x)) (@SetS.nd ζ _ _ _ _ _ _ _ _ x) (@SetS.len ζ _ _ _ _ _ _ _ _ x) (@SetS.mem ζ _ _ _ _ _ _ _ _ x)
omit ζ in
theorem NsR.shift {ζ ζ' : Dead} {h h' : Heap} (k : MonoZ ζ ζ' h h') : ∀ (fs : List (Str × V)) (es : List DictEntry), @NsR ζ h fs es → @NsR ζ' h' fs es
  | [], _, e => e
  | _ :: fs, _, ⟨hs, t, v, r, e, hv, hr⟩ => ⟨hs, t, v, r, e, hv.shift k.tup k.imm, NsR.shift k fs r hr⟩
omit ζ in
theorem SlR.shift {ζ ζ' : Dead} {h h' : Heap} (k : MonoZ ζ ζ' h h') : ∀ (xs : List V) (sl : List (Option Value)), @SlR ζ h xs sl → @SlR ζ' h' xs sl
  | [], _, e => e
  | _ :: xs, _, ⟨v, r, e, hv, hr⟩ => ⟨v, r, e, hv.shift k.tup k.imm, SlR.shift k xs r hr⟩
theorem OH.get {g : G} {h : Heap} {a : Addr} {o : O} (x : OH g h a o) : ∃ r, h.get? a = some r ∧ immC r.cls = false := by
  cases o with
  | list xs => obtain ⟨vs, ep, e, _⟩ := x; exact ⟨_, e, rfl⟩
  | dict es ep => obtain ⟨o, ds, e, hc, _⟩ := x; exact ⟨_, e, by rw [hc.1]; rfl⟩
  | inst C dx => exact ⟨_, x, rfl⟩
  | ns fs => obtain ⟨es, n, e, _⟩ := x; exact ⟨_, e, rfl⟩
  | node C xs => obtain ⟨dx, sl, e, _⟩ := x; exact ⟨_, e, rfl⟩
  | iter l i => exact ⟨_, x, rfl⟩
  | bound id self => exact ⟨_, x, rfl⟩
  | set S n => obtain ⟨o, es, ep, t, ps, us, e, k, _⟩ := x; exact ⟨_, e, by rw [k.1]; rfl⟩
  | exc c as => obtain ⟨o, vs, v, e, hc, hn, _⟩ := x; exact ⟨_, e, by rw [hc]; exact hn⟩
omit ζ in
theorem OH.shift {ζ ζ' : Dead} {g : G} {h h' : Heap} {a : Addr} {o : O} (k : MonoZ ζ ζ' h h') (e : h'.get? a = h.get? a) (x : @OH ζ g h a o) : @OH ζ' g h' a o := by
  cases o with
  | list xs => obtain ⟨vs, ep, e', hr⟩ := x; exact ⟨vs, ep, e.trans e', hr.shift k.tup k.imm⟩
  | dict es ep => obtain ⟨o, ds, e', h1, h2, h3, h4⟩ := x; exact ⟨o, ds, e.trans e', h1, h2, ER.shift k _ _ h3, h4⟩
  | inst C dx => exact e.trans x
  | ns fs => obtain ⟨es, n, e', hr⟩ := x; exact ⟨es, n, e.trans e', NsR.shift k _ _ hr⟩
  | node C xs => obtain ⟨dx, sl, e', hr, o, es, ep, hd, d⟩ := x; exact ⟨dx, sl, e.trans e', SlR.shift k _ _ hr, k.dct _ _ _ _ hd d⟩
  | iter l i => exact e.trans x
  | bound id self => exact e.trans x
  | set S n => obtain ⟨o, es, ep, t, ps, us, e', h1, h2, h3⟩ := x; exact ⟨o, es, ep, t, ps, us, e.trans e', h1, h2, h3.shift k⟩
  | exc c as => obtain ⟨o, vs, v, e', h1, h2, h3, h4, h5⟩ := x; exact ⟨o, vs, v, e.trans e', h1, h2, h3, h4, h5.shift k.tup k.imm⟩
theorem ER.mono {P : Params} {h h' : Heap} (k : Mono h h') (es : List (Int × V)) (ds : List DictEntry) (r : ER P h es ds) : ER P h' es ds := ER.shift k.z es ds r
theorem SetS.mono {P : Params} {h h' : Heap} {T : Int → Bool} {n : Nat} {es : Array (Int × Value)} {t : SetTable} {ps : List Tb.Ent} {us : List Int} (k : Mono h h') (x : SetS P h T n es t ps us) : SetS P h' T n es t ps us := SetS.shift k.z x
theorem NsR.mono {h h' : Heap} (k : Mono h h') (fs : List (Str × V)) (es : List DictEntry) (r : NsR h fs es) : NsR h' fs es := NsR.shift k.z fs es r
theorem SlR.mono {h h' : Heap} (k : Mono h h') (xs : List V) (sl : List (Option Value)) (r : SlR h xs sl) : SlR h' xs sl := SlR.shift k.z xs sl r
theorem OH.mono {g : G} {h h' : Heap} {a : Addr} {o : O} (k : Mono h h') (e : h'.get? a = h.get? a) (x : OH g h a o) : OH g h' a o := OH.shift k.z e x
structure LocOk (F : Fm) (m : Loc) (H : AH) (h : Heap) : Prop where
  kind : F.env.scope.kind = .function
  val : ∃ mr, h.Ns F.env.locals mr ∧ ∀ x a, m x = some a → ∃ v, VR h a v ∧ ((F.env.kindOf x = some .local ∧ mr x = some v) ∨
    ((F.env.kindOf x = some .cell ∨ (F.env.kindOf x = some .free ∧ (x == ("__classdict__" : Str)) = false)) ∧ ∃ c, F.env.cells.lookup x = some c ∧ h.IsCell c (some v)))
  cell : ∀ x c, F.env.cells.lookup x = some c → H c = none ∧ ∃ v, h.IsCell c v
  apart : ∀ x y c, F.env.cells.lookup x = some c → F.env.cells.lookup y = some c → x = y
noncomputable def Own (o : Obj) : Prop := (∃ es ep, o.data = .dict es ep) ∨ ∃ v, o.data = .cell v
structure St (g : G) (F : Fm) (m : Loc) (H : AH) (s : Shared) : Prop where
  base : g.B.StaysIn s.heap
  obj : ∀ a o, H a = some o → g.B.get? a = none ∧ OH g s.heap a o
  loc : LocOk F m H s.heap
  locm : F.env.locals ∈ F.mine
  mine : ∀ b ∈ F.mine, H b = none ∧ g.B.get? b = none ∧ ∃ o, s.heap.get? b = some o ∧ Own o
  frs : s.heap.FunFrames g.B F.stack
  frd : ∀ b ∈ F.fr, H b = none ∧ ∃ o es ep, s.heap.get? b = some o ∧ o.data = .dict es ep
  frame : F.env.frame = F.stack.head?.bind (·.frame)
  Afr : F.A.frames = some F.stack
  gens : s.gens = #[]
  os : s.os = g.os
  room : F.A.depth ≤ 310 + 3 * F.lvl ∧ F.A.units ≤ 100 + 20 * F.lvl ∧ F.lvl ≤ 100 ∧ F.A.guards = some []
  envg : F.env.globals = mainGlobals ∧ F.env.builtins = builtinsNs
  dead : ∀ a ∈ ζ.bad, ∃ o, s.heap.get? a = some o
structure Keep (F : Fm) (h : Heap) (H : AH) (h' : Heap) (H' : AH) : Prop where
  alive : ∀ b o, h.get? b = some o → ∃ o', h'.get? b = some o'
  dct : Dct h h'
  same : ∀ b o, h.get? b = some o → H b = none → b ∉ F.mine → H' b = none ∧ (h'.get? b = some o ∨ (b ∈ F.fr ∧ ∃ sl, h'.get? b = some { o with slots := sl }))
theorem Keep.refl (F : Fm) (h : Heap) (H : AH) : Keep F h H h H := ⟨fun _ o e => ⟨o, e⟩, .refl h, fun _ _ e n _ => ⟨n, .inl e⟩⟩
theorem Keep.trans {F : Fm} {h h' h'' : Heap} {H H' H'' : AH} (x : Keep F h H h' H') (y : Keep F h' H' h'' H'') : Keep F h H h'' H'' := by
  refine ⟨fun b o e => (x.alive b o e).elim fun _ e' => y.alive b _ e', x.dct.trans y.dct, fun b o e n k => ?_⟩
  obtain ⟨n', c⟩ := x.same b o e n k
  rcases c with e' | ⟨f, sl, e'⟩
  · exact y.same b o e' n' k
  · obtain ⟨n'', c⟩ := y.same b _ e' n' k
    rcases c with e'' | ⟨_, sl', e''⟩
    · exact ⟨n'', .inr ⟨f, sl, e''⟩⟩
    · exact ⟨n'', .inr ⟨f, sl', e''⟩⟩
structure FlyB (h h' : Heap) (H' : AH) (a : Addr) (vs : Array Value) (T : Addr) (oT : Obj) (ts : Array Value) (x : Value) : Prop where
  q1 : vs[1]? = some (.ref T)
  q2 : T ≠ a
  q3 : h.get? T = none
  q4 : H' T = none
  q5 : h'.get? T = some oT
  q6 : immC oT.cls = false
  q7 : oT.data = .fields ts
  q8 : ts[3]? = some x
structure FlyA (h : Heap) (e c : Value) (as : List V) (h' : Heap) (H' : AH) (a : Addr) (o : Obj) (vs : Array Value) (v : Value) (P : Prop) : Prop where
  h1 : e = .ref a
  h2 : h.get? a = none
  h3 : H' a = none
  h4 : h'.get? a = some o
  h5 : o.cls = c
  h6 : immC c = false
  h7 : o.data = .fields vs
  h8 : vs[0]? = some v
  h9 : VR h' (.tup as) v
  h10 : P
noncomputable def Fly (h : Heap) (e c : Value) (as : List V) (h' : Heap) (H' : AH) : Prop :=
  ∃ a o vs v, FlyA h e c as h' H' a o vs v (vs[1]? = some .none ∨ ∃ T oT ts x, FlyB h h' H' a vs T oT ts x)
section
variable {g : G} {F : Fm} {m : Loc} {H : AH} {s : Shared}
theorem St.tupFree (S : St g F m H s) {a : Addr} {o : Obj} (i : Imm a o) (e : s.heap.get? a = some o) : H a = none ∧ a ∉ F.mine ∧ a ∉ F.fr := by
  refine ⟨?_, fun k => ?_, fun k => ?_⟩
  · cases q : H a with
    | none => rfl
    | some o' =>
      obtain ⟨r, e', n⟩ := (S.obj a o' q).2.get
      rw [e] at e'; cases e'; rw [i.cls] at n; cases n
  · obtain ⟨_, _, o', e', c⟩ := S.mine a k
    rw [e] at e'; cases e'
    rcases c with ⟨_, _, c⟩ | ⟨_, c⟩
    · exact i.data.1 _ _ c
    · exact i.data.2 _ c
  · obtain ⟨_, o', es, ep', e', c⟩ := S.frd a k
    rw [e] at e'; cases e'; exact i.data.1 _ _ c
theorem Keep.mono {h' : Heap} {H' : AH} (S : St g F m H s) (k : Keep F s.heap H h' H') : Mono s.heap h' := by
  refine ⟨fun a o i e => ?_, k.dct⟩
  obtain ⟨n1, n2, n3⟩ := S.tupFree i e
  rcases (k.same a _ e n1 n2).2 with e' | ⟨f, _⟩
  · exact e'
  · exact absurd f n3
end
end Mine
end
section
open PySem PySem.W PySem.Calls PyProof.Rows
set_option linter.unusedSectionVars false
namespace Mine
variable [ζ : Dead]
structure Chg (P : Addr → Prop) (h h' : Heap) : Prop where
  alive : ∀ b o, h.get? b = some o → ∃ o', h'.get? b = some o'
  dct : Dct h h'
  same : ∀ b o, h.get? b = some o → ¬ P b → h'.get? b = some o
theorem Chg.of_ext {P : Addr → Prop} {h h' : Heap} (k : ∀ b o, h.get? b = some o → h'.get? b = some o) : Chg P h h' := ⟨fun b o e => ⟨o, k b o e⟩, .ext k, fun b o e _ => k b o e⟩
theorem Chg.sameBut {h h' : Heap} {a : Addr} {o : Obj} (x : Heap.SameBut a h h') (e : h'.get? a = some o) (hd : ∀ o₀ es ep, h.get? a = some o₀ → o₀.data = .dict es ep → ∃ es' ep', o.data = .dict es' ep') : Chg (· = a) h h' := by
  refine ⟨fun b o' e' => ?_, fun b o' es ep e' d => ?_, fun b o' e' n => (x.2 b n).trans e'⟩
  · by_cases q : b = a
    · subst q; exact ⟨o, e⟩
    · exact ⟨o', (x.2 b q).trans e'⟩
  · by_cases q : b = a
    · subst q; obtain ⟨es', ep', d'⟩ := hd o' es ep e' d; exact ⟨o, es', ep', e, d'⟩
    · exact ⟨o', es, ep, (x.2 b q).trans e', d⟩
section
variable {g : G} {F : Fm} {m : Loc} {H : AH} {s : Shared}
theorem St.deadK (S : St g F m H s) {h' : Heap} (al : ∀ b o, s.heap.get? b = some o → ∃ o', h'.get? b = some o') : ∀ a ∈ ζ.bad, ∃ o, h'.get? a = some o := fun a ha => (S.dead a ha).elim fun o e => al a o e
theorem St.ok (S : St g F m H s) {a : Addr} (n : s.heap.get? a = none) : okA a := fun ha => by obtain ⟨o, e⟩ := S.dead a ha; rw [n] at e; cases e
theorem St.okn (S : St g F m H s) {a : Addr} (n : s.heap.objs.size ≤ a) : okA a := S.ok (Heap.get?_none_of_le n)
theorem St.okx (S : St g F m H s) {h' : Heap} {a : Addr} (kp : ∀ b o, s.heap.get? b = some o → h'.get? b = some o) (n : h'.objs.size ≤ a) : okA a := fun ha => by obtain ⟨o, e⟩ := S.dead a ha; have := kp a o e; rw [Heap.get?_none_of_le n] at this; cases this
theorem ns_mono {h h' : Heap} {a : Addr} {mr : Str → Option Value} (x : h.Ns a mr) (e : ∀ o, h.get? a = some o → h'.get? a = some o ∨ ∃ sl, h'.get? a = some { o with slots := sl }) : h'.Ns a mr := by
  obtain ⟨o, es, ep, ho, hd, r⟩ := x
  rcases e o ho with e' | ⟨sl, e'⟩
  · exact ⟨o, es, ep, e', hd, r⟩
  · exact ⟨_, es, ep, e', hd, r⟩
theorem cell_mono {h h' : Heap} {c : Addr} {v : Option Value} (x : h.IsCell c v) (e : ∀ o, h.get? c = some o → h'.get? c = some o ∨ ∃ sl, h'.get? c = some { o with slots := sl }) : h'.IsCell c v := by
  obtain ⟨o, ho, hd⟩ := x
  rcases e o ho with e' | ⟨sl, e'⟩
  · exact ⟨o, e', hd⟩
  · exact ⟨_, e', hd⟩
omit ζ in
theorem LocOk.shift {ζ ζ' : Dead} {h h' : Heap} {H' : AH} (x : @LocOk ζ F m H h) (k : MonoZ ζ ζ' h h') (hc : ∀ y c, F.env.cells.lookup y = some c → H' c = none)
    (e : ∀ b, (b = F.env.locals ∨ ∃ y, F.env.cells.lookup y = some b) → ∀ o, h.get? b = some o → h'.get? b = some o ∨ ∃ sl, h'.get? b = some { o with slots := sl }) : @LocOk ζ' F m H' h' := by
  obtain ⟨kd, ⟨mr, hn, hv⟩, cl, ap⟩ := x
  refine ⟨kd, ⟨mr, ns_mono hn (e _ (.inl rfl)), fun y a ha => ?_⟩, fun y c hy => ⟨hc y c hy, ((cl y c hy).2).elim fun v q => ⟨v, cell_mono q (e c (.inr ⟨y, hy⟩))⟩⟩, ap⟩
  obtain ⟨v, r, q⟩ := hv y a ha
  refine ⟨v, r.shift k.tup k.imm, ?_⟩
  rcases q with q | ⟨q, c, h1, h2⟩
  · exact .inl q
  · exact .inr ⟨q, c, h1, cell_mono h2 (e c (.inr ⟨y, h1⟩))⟩
theorem LocOk.mono {h h' : Heap} {H' : AH} (x : LocOk F m H h) (k : Mono h h') (hc : ∀ y c, F.env.cells.lookup y = some c → H' c = none)
    (e : ∀ b, (b = F.env.locals ∨ ∃ y, F.env.cells.lookup y = some b) → ∀ o, h.get? b = some o → h'.get? b = some o ∨ ∃ sl, h'.get? b = some { o with slots := sl }) : LocOk F m H' h' := LocOk.shift x k.z hc e
theorem funFrames_mono {h h' B : Heap} : ∀ {l : List Env}, h.FunFrames B l → (∀ b ∈ l.filterMap (·.frame), ∀ o, h.get? b = some o → ∃ o', h'.get? b = some o' ∧ ((∀ vs, o.data ≠ .fields vs) → ∀ vs, o'.data ≠ .fields vs)) → h'.FunFrames B l
  | [], _, _ => trivial
  | env :: rest, ⟨hk, ⟨L, o, hf, hn, ho, hd⟩, hr⟩, k => by
    obtain ⟨o', e', d'⟩ := k L (by rw [List.filterMap_cons, hf]; exact List.mem_cons_self) o ho
    refine ⟨hk, ⟨L, o', hf, hn, e', d' hd⟩, funFrames_mono hr fun b hb => k b ?_⟩
    rw [List.filterMap_cons, hf]; exact List.mem_cons_of_mem _ hb
theorem St.locIs (S : St g F m H s) : ∀ b, (b = F.env.locals ∨ ∃ y, F.env.cells.lookup y = some b) → H b = none ∧ ∃ o, s.heap.get? b = some o ∧ Own o := by
  rintro b (rfl | ⟨y, hy⟩)
  · obtain ⟨a, _, c⟩ := S.mine _ S.locm; exact ⟨a, c⟩
  · obtain ⟨a, v, o, e, d⟩ := S.loc.cell y b hy; exact ⟨a, o, e, .inr ⟨v, d⟩⟩
omit ζ in
theorem St.shift {ζ₁ ζ₂ : Dead} {h' : Heap} {t : Nat} (S : @St ζ₁ g F m H s) (C : ∀ b o, s.heap.get? b = some o → h'.get? b = some o) (k : ∀ a o, @Imm ζ₁ a o → s.heap.get? a = some o → @Imm ζ₂ a o) (al : ∀ a ∈ ζ₂.bad, ∃ o, h'.get? a = some o) :
    @St ζ₂ g F m H { s with heap := h', toks := t } := by
  have mn : MonoZ ζ₁ ζ₂ s.heap h' := ⟨fun a o _ e => C a o e, .ext C, k⟩
  have L := @St.loc ζ₁ _ _ _ _ _ S
  refine @St.mk ζ₂ g F m H { s with heap := h', toks := t } (fun b o e => C b o (@St.base ζ₁ _ _ _ _ _ S b o e)) (fun b o e => ?_) ?_ (@St.locm ζ₁ _ _ _ _ _ S) (fun b hb => ?_) ?_ (fun b hb => ?_) (@St.frame ζ₁ _ _ _ _ _ S) (@St.Afr ζ₁ _ _ _ _ _ S) (show s.gens = #[] from @St.gens ζ₁ _ _ _ _ _ S) (show s.os = g.os from @St.os ζ₁ _ _ _ _ _ S) (@St.room ζ₁ _ _ _ _ _ S) (@St.envg ζ₁ _ _ _ _ _ S) al
  · obtain ⟨b1, b2⟩ := @St.obj ζ₁ _ _ _ _ _ S b o e
    obtain ⟨r, e', _⟩ := @OH.get ζ₁ _ _ _ _ b2
    exact ⟨b1, OH.shift mn ((C b r e').trans e'.symm) b2⟩
  · refine LocOk.shift L mn (fun y c hy => ?_) fun b hb o e => .inl (C b o e)
    exact (@LocOk.cell ζ₁ _ _ _ _ L y c hy).1
  · obtain ⟨n, n', o, e, w⟩ := @St.mine ζ₁ _ _ _ _ _ S b hb
    exact ⟨n, n', o, C b o e, w⟩
  · exact funFrames_mono (@St.frs ζ₁ _ _ _ _ _ S) fun b hb o e => ⟨o, C b o e, id⟩
  · obtain ⟨n, o, es, ep, e, d⟩ := @St.frd ζ₁ _ _ _ _ _ S b hb
    exact ⟨n, o, es, ep, C b o e, d⟩
theorem St.chg {P : Addr → Prop} {h' : Heap} {H' : AH} {t : Nat} (S : St g F m H s) (C : Chg P s.heap h') (hP : ∀ b, P b → (s.heap.get? b).isSome = true → (H b).isSome = true)
    (hH : ∀ b, (H b).isSome = true ∨ s.heap.get? b = none ∨ H' b = none)
    (hn : ∀ b o, H' b = some o → (H b = some o ∧ ¬ P b) ∨ ((s.heap.get? b = none ∨ (H b).isSome = true) ∧ OH g h' b o)) : St g F m H' { s with heap := h', toks := t } ∧ Keep F s.heap H h' H' := by
  have free : ∀ b, H b = none → (s.heap.get? b).isSome = true → ¬ P b := fun b e i p => by have := hP b p i; rw [e] at this; cases this
  have keep : ∀ b o, s.heap.get? b = some o → H b = none → h'.get? b = some o := fun b o e n => C.same b o e (free b n (by rw [e]; rfl))
  have none' : ∀ b o, s.heap.get? b = some o → H b = none → H' b = none := fun b o e n => by
    rcases hH b with q | q | q
    · rw [n] at q; cases q
    · rw [e] at q; cases q
    · exact q
  have mn : Mono s.heap h' := ⟨fun a o i e => keep a _ e (S.tupFree i e).1, C.dct⟩
  have base : g.B.StaysIn h' := fun b o e => by
    refine keep b o (S.base b o e) ?_
    cases q : H b with
    | none => rfl
    | some o' => have := (S.obj b o' q).1; rw [e] at this; cases this
  refine ⟨⟨base, fun b o e => ?_, ?_, S.locm, fun b hb => ?_, ?_, fun b hb => ?_, S.frame, S.Afr, S.gens, S.os, S.room, S.envg, S.deadK C.alive⟩, C.alive, C.dct, fun b o e n _ => ⟨none' b o e n, .inl (keep b o e n)⟩⟩
  · rcases hn b o e with ⟨q, n⟩ | ⟨q, w⟩
    · obtain ⟨b1, b2⟩ := S.obj b o q
      obtain ⟨r, e', _⟩ := b2.get
      exact ⟨b1, b2.mono mn ((C.same b r e' n).trans e'.symm)⟩
    · refine ⟨?_, w⟩
      rcases q with q | q
      · cases z : g.B.get? b with
        | none => rfl
        | some o' => have := S.base b o' z; rw [q] at this; cases this
      · obtain ⟨o', q⟩ := Option.isSome_iff_exists.mp q
        exact (S.obj b o' q).1
  · refine S.loc.mono mn (fun y c hy => ?_) fun b hb o e => .inl (keep b o e (S.locIs b hb).1)
    obtain ⟨n, o, e, _⟩ := S.locIs c (.inr ⟨y, hy⟩)
    exact none' c o e n
  · obtain ⟨n, n', o, e, w⟩ := S.mine b hb
    exact ⟨none' b o e n, n', o, keep b o e n, w⟩
  · refine funFrames_mono S.frs fun b hb o e => ⟨o, keep b o e (S.frd b hb).1, id⟩
  · obtain ⟨n, o, es, ep, e, d⟩ := S.frd b hb
    exact ⟨none' b o e n, o, es, ep, keep b o e n, d⟩
theorem St.ext {h' : Heap} {t : Nat} (S : St g F m H s) (C : ∀ b o, s.heap.get? b = some o → h'.get? b = some o) : St g F m H { s with heap := h', toks := t } ∧ Keep F s.heap H h' H :=
  S.chg (P := fun _ => False) (.of_ext C) (fun _ p => p.elim) (fun b => by cases H b <;> simp) (fun b o e => .inl ⟨e, id⟩)
theorem St.alive (S : St g F m H s) {a : Addr} {o : O} (e : H a = some o) : ∃ r, s.heap.get? a = some r := ((S.obj a o e).2.get).elim fun r qq1 => qq1.elim fun q _ => ⟨r, q⟩
theorem St.untracked (S : St g F m H s) {a : Addr} (e : s.heap.get? a = none) : H a = none := by
  cases q : H a with
  | none => rfl
  | some o => obtain ⟨r, z⟩ := S.alive q; rw [e] at z; cases z
theorem St.set {a : Addr} {o o' : O} {h' : Heap} {t : Nat} (S : St g F m H s) (C : Chg (· = a) s.heap h') (ha : H a = some o) (hn : OH g h' a o') :
    St g F m (put H a o') { s with heap := h', toks := t } ∧ Keep F s.heap H h' (put H a o') := by
  refine S.chg C (fun b e _ => by subst e; rw [ha]; rfl) (fun b => ?_) (fun b p e => ?_)
  · by_cases q : b = a
    · subst q; exact .inl (by rw [ha]; rfl)
    · rw [put_ne _ _ q]; cases H b <;> simp
  · by_cases q : b = a
    · subst q; rw [put_self] at e; cases e; exact .inr ⟨.inr (by rw [ha]; rfl), hn⟩
    · rw [put_ne _ _ q] at e; exact .inl ⟨e, q⟩
theorem St.new {a : Addr} {o' : O} {h' : Heap} {t : Nat} (S : St g F m H s) (C : ∀ b o, s.heap.get? b = some o → h'.get? b = some o) (ha : s.heap.get? a = none) (hn : OH g h' a o') :
    St g F m (put H a o') { s with heap := h', toks := t } ∧ Keep F s.heap H h' (put H a o') := by
  refine S.chg (P := fun _ => False) (.of_ext C) (fun _ p => p.elim) (fun b => ?_) (fun b p e => ?_)
  · by_cases q : b = a
    · subst q; exact .inr (.inl ha)
    · rw [put_ne _ _ q]; cases H b <;> simp
  · by_cases q : b = a
    · subst q; rw [put_self] at e; cases e; exact .inr ⟨.inl ha, hn⟩
    · rw [put_ne _ _ q] at e; exact .inl ⟨e, id⟩
theorem St.track {a : Addr} {o' : O} {h₀ : Heap} {H₀ : AH} (S : St g F m H s) (K : Keep F h₀ H₀ s.heap H) (h0 : h₀.get? a = none) (hB : g.B.get? a = none) (hH : H a = none) (hm : a ∉ F.mine) (hf : a ∉ F.fr)
    (hc : ∀ y, F.env.cells.lookup y ≠ some a) (hn : OH g s.heap a o') : St g F m (put H a o') s ∧ Keep F h₀ H₀ s.heap (put H a o') := by
  have no : ∀ b, b ≠ a → put H a o' b = H b := fun b q => put_ne _ _ q
  refine ⟨⟨S.base, fun b o e => ?_, ⟨S.loc.kind, S.loc.val, fun y c hy => ?_, S.loc.apart⟩, S.locm, fun b hb => ?_, S.frs, fun b hb => ?_, S.frame, S.Afr, S.gens, S.os, S.room, S.envg, S.dead⟩, K.alive, K.dct, fun b o e n hb => ?_⟩
  · by_cases q : b = a
    · subst q; rw [put_self] at e; cases e; exact ⟨hB, hn⟩
    · rw [no b q] at e; exact S.obj b o e
  · rw [no c fun q => hc y (q ▸ hy)]; exact S.loc.cell y c hy
  · rw [no b fun q => hm (q ▸ hb)]; exact S.mine b hb
  · rw [no b fun q => hf (q ▸ hb)]; exact S.frd b hb
  · rw [no b fun q => by subst q; rw [h0] at e; cases e]; exact K.same b o e n hb
end
section
variable {g : G} {F : Fm} {m m' : Loc} {H : AH} {s : Shared}
theorem St.own {b : Addr} {h' : Heap} {t : Nat} (S : St g F m H s) (hb : b ∈ F.mine) (C : Chg (· = b) s.heap h') (ho : ∃ o, h'.get? b = some o ∧ Own o)
    (hd : ∀ o es ep, s.heap.get? b = some o → o.data = .dict es ep → ∃ o' es' ep', h'.get? b = some o' ∧ o'.data = .dict es' ep') (hl : LocOk F m' H h') :
    St g F m' H { s with heap := h', toks := t } ∧ Keep F s.heap H h' H := by
  obtain ⟨nb, nB, ob, eb, wb⟩ := S.mine b hb
  have keep : ∀ c o, s.heap.get? c = some o → c ≠ b → h'.get? c = some o := fun c o e n => C.same c o e n
  have ntup : ∀ a o, Imm a o → s.heap.get? a = some o → a ≠ b := fun a o i e q => by subst q; exact (S.tupFree i e).2.1 hb
  have mn : Mono s.heap h' := ⟨fun a o i e => keep a _ e (ntup a o i e), C.dct⟩
  refine ⟨⟨fun c o e => keep c o (S.base c o e) (fun q => by subst q; rw [nB] at e; cases e), fun c o e => ?_, hl, S.locm, fun c hc => ?_, ?_, fun c hc => ?_, S.frame, S.Afr, S.gens, S.os, S.room, S.envg, S.deadK C.alive⟩, C.alive, C.dct, fun c o e n hc => ⟨n, .inl (keep c o e fun q => hc (q ▸ hb))⟩⟩
  · obtain ⟨b1, b2⟩ := S.obj c o e
    obtain ⟨r, e', _⟩ := b2.get
    exact ⟨b1, b2.mono mn ((keep c r e' fun q => by subst q; rw [nb] at e; cases e).trans e'.symm)⟩
  · by_cases q : c = b
    · subst q; exact ⟨nb, nB, ho⟩
    · obtain ⟨h1, h2, o, h3, h4⟩ := S.mine c hc
      exact ⟨h1, h2, o, keep c o h3 q, h4⟩
  · refine funFrames_mono S.frs fun c hc o e => ?_
    by_cases q : c = b
    · subst q
      obtain ⟨o', e', w⟩ := ho
      refine ⟨o', e', fun _ vs z => ?_⟩
      rcases w with ⟨es, ep, w⟩ | ⟨v, w⟩ <;> rw [w] at z <;> cases z
    · exact ⟨o, keep c o e q, id⟩
  · obtain ⟨h1, o, es, ep, h3, h4⟩ := S.frd c hc
    by_cases q : c = b
    · subst q; exact ⟨h1, hd o es ep h3 h4⟩
    · exact ⟨h1, o, es, ep, keep c o h3 q, h4⟩
end
structure OkS {α β : Type} (g : G) (F : Fm) (R : Heap → β → α → Prop) (Q : β → Loc → AH → Prop) (h : Heap) (H : AH) (a : α) (s' : Shared) (b : β) (m' : Loc) (H' : AH) : Prop where
  r : R s'.heap b a
  st : St g F m' H' s'
  kp : Keep F h H s'.heap H'
  q : Q b m' H'
structure ErS (g : G) (F : Fm) (X : Value → List V → Loc → AH → Prop) (h : Heap) (H : AH) (e : Value) (s' : Shared) (c : Value) (as : List V) (m' : Loc) (H' : AH) : Prop where
  r : Fly h e c as s'.heap H'
  st : St g F m' H' s'
  kp : Keep F h H s'.heap H'
  q : X c as m' H'
noncomputable def OkP {α β : Type} (g : G) (F : Fm) (R : Heap → β → α → Prop) (Q : β → Loc → AH → Prop) (h : Heap) (H : AH) (a : α) (s' : Shared) : Prop := ∃ b m' H', OkS g F R Q h H a s' b m' H'
noncomputable def ErP (g : G) (F : Fm) (X : Value → List V → Loc → AH → Prop) (h : Heap) (H : AH) (e : Value) (s' : Shared) : Prop := ∃ c as m' H', ErS g F X h H e s' c as m' H'
theorem OkP.elim {α β : Type} {g : G} {F : Fm} {R : Heap → β → α → Prop} {Q : β → Loc → AH → Prop} {h : Heap} {H : AH} {a : α} {s' : Shared} {P : Prop} (x : OkP g F R Q h H a s')
    (k : ∀ b m' H', R s'.heap b a → St g F m' H' s' → Keep F h H s'.heap H' → Q b m' H' → P) : P := by
  obtain ⟨b, m', H', r, st, kp, q⟩ := x
  exact k b m' H' r st kp q
theorem ErP.elim {g : G} {F : Fm} {X : Value → List V → Loc → AH → Prop} {h : Heap} {H : AH} {e : Value} {s' : Shared} {P : Prop} (x : ErP g F X h H e s')
    (k : ∀ c as m' H', Fly h e c as s'.heap H' → St g F m' H' s' → Keep F h H s'.heap H' → X c as m' H' → P) : P := by
  obtain ⟨c, as, m', H', r, st, kp, q⟩ := x
  exact k c as m' H' r st kp q
theorem ErP.no {g : G} {F : Fm} {h : Heap} {H : AH} {e : Value} {s' : Shared} {P : Prop} (x : ErP g F (fun _ _ _ _ => False) h H e s') : P := x.elim fun _ _ _ _ _ _ _ z => z.elim
noncomputable def Wt {α β : Type} (g : G) (F : Fm) (R : Heap → β → α → Prop) (t : Sem α) (m : Loc) (H : AH) (Q : β → Loc → AH → Prop) (X : Value → List V → Loc → AH → Prop) : Prop :=
  ∀ s, St g F m H s → wpAny (model g.prog g.w) F.A t (OkP g F R Q s.heap H) (ErP g F X s.heap H) s
noncomputable abbrev EqR {α : Type} : Heap → α → α → Prop := fun _ b a => b = a
noncomputable abbrev WE (g : G) (F : Fm) (t : Sem Value) (m : Loc) (H : AH) (Q : V → Loc → AH → Prop) (X : Value → List V → Loc → AH → Prop) : Prop := Wt g F VR t m H Q X
inductive Fl where
  | next | brk | cont
  | ret (v : V)
noncomputable def FR (h : Heap) : Fl → Flow → Prop
  | .next, f => f = .next
  | .brk, f => f = .brk
  | .cont, f => f = .cont
  | .ret x, f => ∃ v, f = .ret v ∧ VR h x v
noncomputable abbrev WS (g : G) (F : Fm) (t : Sem Flow) (m : Loc) (H : AH) (Q : Fl → Loc → AH → Prop) (X : Value → List V → Loc → AH → Prop) : Prop := Wt g F FR t m H Q X
noncomputable abbrev WB (g : G) (F : Fm) (t : Sem Bool) (m : Loc) (H : AH) (Q : Bool → Loc → AH → Prop) (X : Value → List V → Loc → AH → Prop) : Prop := Wt g F EqR t m H Q X
noncomputable abbrev WL (g : G) (F : Fm) (t : Sem (List Value)) (m : Loc) (H : AH) (Q : List V → Loc → AH → Prop) (X : Value → List V → Loc → AH → Prop) : Prop := Wt g F VRs t m H Q X
noncomputable def W1 {α β : Type} (g : G) (F : Fm) (R : Heap → β → α → Prop) (x : V) (t : Value → Sem α) (m : Loc) (H : AH) (Q : β → Loc → AH → Prop) (X : Value → List V → Loc → AH → Prop) : Prop :=
  ∀ s v, St g F m H s → VR s.heap x v → wpAny (model g.prog g.w) F.A (t v) (OkP g F R Q s.heap H) (ErP g F X s.heap H) s
noncomputable def W2 {α β : Type} (g : G) (F : Fm) (R : Heap → β → α → Prop) (x y : V) (t : Value → Value → Sem α) (m : Loc) (H : AH) (Q : β → Loc → AH → Prop) (X : Value → List V → Loc → AH → Prop) : Prop :=
  ∀ s v u, St g F m H s → VR s.heap x v → VR s.heap y u → wpAny (model g.prog g.w) F.A (t v u) (OkP g F R Q s.heap H) (ErP g F X s.heap H) s
noncomputable def W3 {α β : Type} (g : G) (F : Fm) (R : Heap → β → α → Prop) (x y z : V) (t : Value → Value → Value → Sem α) (m : Loc) (H : AH) (Q : β → Loc → AH → Prop) (X : Value → List V → Loc → AH → Prop) : Prop :=
  ∀ s v u w, St g F m H s → VR s.heap x v → VR s.heap y u → VR s.heap z w → wpAny (model g.prog g.w) F.A (t v u w) (OkP g F R Q s.heap H) (ErP g F X s.heap H) s
noncomputable def WN {α β : Type} (g : G) (F : Fm) (R : Heap → β → α → Prop) (xs : List V) (t : List Value → Sem α) (m : Loc) (H : AH) (Q : β → Loc → AH → Prop) (X : Value → List V → Loc → AH → Prop) : Prop :=
  ∀ s vs, St g F m H s → VRs s.heap xs vs → wpAny (model g.prog g.w) F.A (t vs) (OkP g F R Q s.heap H) (ErP g F X s.heap H) s
noncomputable abbrev k1 {α β : Type} (g : G) (F : Fm) (R : Heap → β → α → Prop) (t : Value → Sem α) (Q : β → Loc → AH → Prop) (X : Value → List V → Loc → AH → Prop) : V → Loc → AH → Prop := fun a m H => W1 g F R a t m H Q X
noncomputable abbrev k2 {α β : Type} (g : G) (F : Fm) (R : Heap → β → α → Prop) (t : Value → Value → Sem α) (a : V) (Q : β → Loc → AH → Prop) (X : Value → List V → Loc → AH → Prop) : V → Loc → AH → Prop := fun b m H => W2 g F R a b t m H Q X
noncomputable abbrev kR (g : G) (F : Fm) (r : Expr) (t : Value → Value → Sem Value) (Q : V → Loc → AH → Prop) (X : Value → List V → Loc → AH → Prop) : V → Loc → AH → Prop := fun a m H => WE g F (eval r F.env) m H (k2 g F VR t a Q X) X
noncomputable abbrev kC (Q : List V → Loc → AH → Prop) (a : V) : List V → Loc → AH → Prop := fun as m H => Q (a :: as) m H
noncomputable abbrev kL (g : G) (F : Fm) (pos : Pos) (rest : List Expr) (Q : List V → Loc → AH → Prop) (X : Value → List V → Loc → AH → Prop) : V → Loc → AH → Prop := fun a m H => WL g F (spliced (backTo pos (starEach rest F.env))) m H (kC Q a) X
noncomputable abbrev kTup (Q : V → Loc → AH → Prop) : List V → Loc → AH → Prop := fun as m H => as.length ≤ sizeLine ∧ Q (.tup as) m H
noncomputable abbrev kList (Q : V → Loc → AH → Prop) : List V → Loc → AH → Prop := fun as m H => as.length ≤ sizeLine ∧ ∀ a, H a = none → Q (.ref a) m (put H a (.list as))
noncomputable abbrev kNot (Q : Bool → Loc → AH → Prop) : Bool → Loc → AH → Prop := fun b m H => Q (!b) m H
noncomputable abbrev kTail (g : G) (F : Fm) (rest : List Stmt) (Q : Fl → Loc → AH → Prop) (X : Value → List V → Loc → AH → Prop) : Fl → Loc → AH → Prop := fun f m H => match f with | .next => WS g F (execs rest F.env) m H Q X | f => Q f m H
noncomputable abbrev kRet (Q : Fl → Loc → AH → Prop) : V → Loc → AH → Prop := fun a m H => Q (.ret a) m H
noncomputable abbrev kSt (Q : Fl → Loc → AH → Prop) (x : Str) : V → Loc → AH → Prop := fun a m H => Q .next (setL m x a) H
noncomputable abbrev kW (Q : V → Loc → AH → Prop) (x : Str) : V → Loc → AH → Prop := fun a m H => Q a (setL m x a) H
noncomputable abbrev kN (Q : Fl → Loc → AH → Prop) : Loc → AH → Prop := fun m H => Q .next m H
noncomputable abbrev kX (Q : Fl → Loc → AH → Prop) : V → Loc → AH → Prop := fun _ m H => Q .next m H
noncomputable abbrev kBody (g : G) (F : Fm) (body : List Stmt) (Q : Fl → Loc → AH → Prop) (X : Value → List V → Loc → AH → Prop) : Loc → AH → Prop := fun m H => WS g F (execs body F.env) m H Q X
noncomputable abbrev kLoop (J : Nat → Loc → AH → Prop) (Q : Fl → Loc → AH → Prop) (i : Nat) : Fl → Loc → AH → Prop := fun f m H => match f with | .next => J (i + 1) m H | .cont => J (i + 1) m H | .brk => Q .next m H | .ret v => Q (.ret v) m H
noncomputable abbrev kVal (Q : V → Loc → AH → Prop) (v : Fl → V) (m : Loc) : Fl → Loc → AH → Prop := fun fl _ H' => Q (v fl) m H'
noncomputable abbrev kErr (X : Value → List V → Loc → AH → Prop) (m : Loc) : Value → List V → Loc → AH → Prop := fun c as _ H' => X c as m H'
noncomputable abbrev kEmit (Q : List V → Loc → AH → Prop) (ys : List V) : V → Loc → AH → Prop := fun a m H => Q (ys ++ [a]) m H
section
variable {α β γ δ : Type} {g : G} {F : Fm} {m m' : Loc} {H H' : AH} {s s' : Shared} {R : Heap → β → α → Prop} {R' : Heap → δ → γ → Prop} {X : Value → List V → Loc → AH → Prop}
theorem OkP.after {Q : β → Loc → AH → Prop} {h h₁ : Heap} {H H₁ : AH} {a : α} (k : Keep F h H h₁ H₁) (x : OkP g F R Q h₁ H₁ a s') : OkP g F R Q h H a s' :=
  let ⟨b, m', H', r, st, k', q⟩ := x; ⟨b, m', H', r, st, k.trans k', q⟩
theorem Fly.since {h h₁ h' : Heap} {H' : AH} {e c : Value} {as : List V} (al : ∀ b o, h.get? b = some o → ∃ o', h₁.get? b = some o') (x : Fly h₁ e c as h' H') : Fly h e c as h' H' := by
  have no : ∀ b, h₁.get? b = none → h.get? b = none := fun b e => by
    cases q : h.get? b with
    | none => rfl
    | some o => obtain ⟨o', z⟩ := al b o q; rw [e] at z; cases z
  obtain ⟨a, o, vs, v, h1, h2, h3, h4, h5, h6, h7, h8, h9, h10⟩ := x
  refine ⟨a, o, vs, v, h1, no a h2, h3, h4, h5, h6, h7, h8, h9, ?_⟩
  rcases h10 with q | ⟨T, oT, ts, x, b⟩
  · exact .inl q
  · exact .inr ⟨T, oT, ts, x, b.q1, b.q2, no T b.q3, b.q4, b.q5, b.q6, b.q7, b.q8⟩
theorem ErP.after {h h₁ : Heap} {H H₁ : AH} {e : Value} (k : Keep F h H h₁ H₁) (x : ErP g F X h₁ H₁ e s') : ErP g F X h H e s' :=
  let ⟨c, as, m', H', r, st, k', q⟩ := x; ⟨c, as, m', H', r.since k.alive, st, k.trans k', q⟩
theorem VR.keep {x : V} {v : Value} (S : St g F m H s) (k : Keep F s.heap H s'.heap H') (r : VR s.heap x v) : VR s'.heap x v := r.mono (k.mono S).tup
theorem VRs.keep {x : List V} {v : List Value} (S : St g F m H s) (k : Keep F s.heap H s'.heap H') (r : VRs s.heap x v) : VRs s'.heap x v := r.mono (k.mono S).tup
theorem Wt.run {t : Sem α} {Q : β → Loc → AH → Prop} {Q' : α → Shared → Prop} {E' : Value → Shared → Prop} (h : Wt g F R t m H Q X) (S : St g F m H s)
    (hq : ∀ a s' b m' H', R s'.heap b a → St g F m' H' s' → Keep F s.heap H s'.heap H' → Q b m' H' → Q' a s') (he : ∀ e s', ErP g F X s.heap H e s' → E' e s') :
    wpAny (model g.prog g.w) F.A t Q' E' s :=
  wpAny_mono (h s S) (fun a s' yy => yy.elim fun b m' H' r st k q => hq a s' b m' H' r st k q) he
theorem Wt.mono {t : Sem α} {Q Q' : β → Loc → AH → Prop} {X' : Value → List V → Loc → AH → Prop} (h : Wt g F R t m H Q X) (hq : ∀ b m' H', Q b m' H' → Q' b m' H') (hx : ∀ c as m' H', X c as m' H' → X' c as m' H') : Wt g F R t m H Q' X' :=
  fun s S => wpAny_mono (h s S) (fun _ _ yy => yy.elim fun b m' H' r st k q => ⟨b, m', H', r, st, k, hq _ _ _ q⟩) fun _ _ yy => yy.elim fun c as m' H' r st k q => ⟨c, as, m', H', r, st, k, hx _ _ _ _ q⟩
end
end Mine
end
section
open PySem PySem.W PySem.Calls PyProof.Rows
set_option linter.unusedSectionVars false
set_option linter.unusedVariables false
namespace Mine
variable [ζ : Dead]
section
variable {h : Heap}
theorem VR.none' : VR h .none .none := by unfold VR; rfl
theorem VR.bool' (b : Bool) : VR h (.bool b) (.bool b) := by unfold VR; rfl
theorem VR.int' (n : Int) (t : Tok) : VR h (.int n) (.int n t) := by unfold VR; exact ⟨t, rfl⟩
theorem VR.str' (x : Str) (t : Tok) : VR h (.str x) (.str x t) := by unfold VR; exact ⟨t, rfl⟩
theorem VR.ref' (a : Addr) : VR h (.ref a) (.ref a) := by unfold VR; rfl
theorem VR.cst' (v : Value) : VR h (.cst v) v := by unfold VR; rfl
theorem VR.tup' {xs : List V} {a : Addr} {vs : List Value} {ep : Nat} (z : okA a) (e : h.get? a = some (tupObj vs ep)) (r : VRs h xs vs) : VR h (.tup xs) (.ref a) := by unfold VR; exact ⟨a, vs, ep, rfl, e, r, z⟩
theorem VR.none_iff {v : Value} : VR h .none v ↔ v = .none := by unfold VR; exact Iff.rfl
theorem VR.bool_iff {v : Value} {b : Bool} : VR h (.bool b) v ↔ v = .bool b := by unfold VR; exact Iff.rfl
theorem VR.int_iff {v : Value} {n : Int} : VR h (.int n) v ↔ ∃ t, v = .int n t := by unfold VR; exact Iff.rfl
theorem VR.str_iff {v : Value} {x : Str} : VR h (.str x) v ↔ ∃ t, v = .str x t := by unfold VR; exact Iff.rfl
theorem VR.ref_iff {v : Value} {a : Addr} : VR h (.ref a) v ↔ v = .ref a := by unfold VR; exact Iff.rfl
theorem VR.cst_iff {v w : Value} : VR h (.cst w) v ↔ v = w := by unfold VR; exact Iff.rfl
theorem VR.pint_iff {v : Value} {n : Int} : VR h (.pint n) v ↔ ∃ t, v = .int n (t + 1) := by unfold VR; exact Iff.rfl
theorem VR.pstr_iff {v : Value} {x : Str} : VR h (.pstr x) v ↔ ∃ t, v = .str x (t + 1) := by unfold VR; exact Iff.rfl
theorem VR.tup_iff {v : Value} {xs : List V} : VR h (.tup xs) v ↔ ∃ a vs ep, v = .ref a ∧ h.get? a = some (tupObj vs ep) ∧ VRs h xs vs ∧ okA a := by unfold VR; exact Iff.rfl
theorem VR.tup_of {v : Value} {xs : List V} (r : VR h (.tup xs) v) : ∃ a vs ep, v = .ref a ∧ h.get? a = some (tupObj vs ep) ∧ VRs h xs vs := (VR.tup_iff.mp r).elim fun a qq1 => qq1.elim fun vs qq2 => qq2.elim fun ep qq3 => qq3.elim fun e qq4 => qq4.elim fun f qq5 => qq5.elim fun r _ => ⟨a, vs, ep, e, f, r⟩
end
section
variable {g : G} {F : Fm} {m : Loc} {H : AH} {Q : V → Loc → AH → Prop} {X : Value → List V → Loc → AH → Prop}
theorem OkP.now {α β : Type} {R : Heap → β → α → Prop} {Q : β → Loc → AH → Prop} {s s' : Shared} {a : α} {b : β} (S : St g F m H s) (hh : s'.heap = s.heap) (hg : s'.gens = s.gens) (ho : s'.os = s.os) (r : R s.heap b a) (q : Q b m H) : OkP g F R Q s.heap H a s' := by
  refine ⟨b, m, H, by rw [hh]; exact r, ?_, by rw [hh]; exact .refl .., q⟩
  obtain ⟨h, gs, d, t, o⟩ := s'
  cases hh; cases hg; cases ho
  exact ⟨S.base, S.obj, S.loc, S.locm, S.mine, S.frs, S.frd, S.frame, S.Afr, S.gens, S.os, S.room, S.envg, S.dead⟩
theorem e_none {k : Nat} {pos : Pos} (h : Q .none m H) : WE g F (eval (.Constant .none k pos) F.env) m H Q X := fun _ S => wpAny_pure (OkP.now S rfl rfl rfl .none' h)
theorem e_bool {b : Bool} {k : Nat} {pos : Pos} (h : Q (.bool b) m H) : WE g F (eval (.Constant (.bool b) k pos) F.env) m H Q X := fun _ S => wpAny_pure (OkP.now S rfl rfl rfl (.bool' b) h)
theorem e_int {i : Int} {k : Nat} {pos : Pos} (h : Q (.int i) m H) : WE g F (eval (.Constant (.int i) k pos) F.env) m H Q X := fun _ S => wpAny_Constant_int (OkP.now S rfl rfl rfl (.int' i _) h)
theorem e_str {x : Str} {k : Nat} {pos : Pos} (h : Q (.str x) m H) : WE g F (eval (.Constant (.str x) k pos) F.env) m H Q X := fun _ S => wpAny_mkText (OkP.now S rfl rfl rfl (.str' x _) h)
theorem n_load {x : Str} {a : V} (hv : m x = some a) (h : Q a m H) : WE g F (loadName F.env x) m H Q X := fun s S => by
  obtain ⟨kd, ⟨mr, hn, hm⟩, _, _⟩ := S.loc
  obtain ⟨v, r, q⟩ := hm x a hv
  rcases q with ⟨q, e⟩ | ⟨q, c, e, ec⟩
  · exact wpAny_loadName_local kd q hn e (OkP.now S rfl rfl rfl r h)
  · rcases q with q | ⟨q, nc⟩
    · exact wpAny_loadName_cell kd q e ec (OkP.now S rfl rfl rfl r h)
    · exact wpAny_loadName_free kd q e ec (OkP.now S rfl rfl rfl r h) nc
theorem e_name {x : Str} {pos : Pos} {a : V} (hv : m x = some a) (h : Q a m H) (hd : (x == ("__debug__" : Str)) = false := by decide) : WE g F (eval (.Name x pos) F.env) m H Q X :=
  fun s S => wpAny_Name (n_load hv h s S) hd
theorem e_glob {x : Str} {pos : Pos} {v : Value} {a : V} (hk : F.env.kindOf x = some .globalImplicit) (hv : nsIn g.K mainGlobals x = some (some v)) (hr : ∀ h, VR h a v) (h : Q a m H) (hd : (x == ("__debug__" : Str)) = false := by decide) :
    WE g F (eval (.Name x pos) F.env) m H Q X := fun s S => by
  refine wpAny_Name ?_ hd
  rw [loadName_read S.loc.kind hk]
  unfold loadGlobal
  rw [S.envg.1]
  have hm : g.mg x = some v := mg_of g.kin g.glob hv
  refine wpAny_bind (wpAny_nsGet (g.glob.keeps S.base) ?_)
  rw [hm]
  exact wpAny_pure (OkP.now S rfl rfl rfl (hr _) h)
theorem e_blt {x : Str} {pos : Pos} {v : Value} (hk : F.env.kindOf x = some .globalImplicit) (hv : nsIn g.K mainGlobals x = some none) (hb : g.mb x = some v) (h : Q (.cst v) m H) (hd : (x == ("__debug__" : Str)) = false := by decide) :
    WE g F (eval (.Name x pos) F.env) m H Q X := fun s S => by
  refine wpAny_Name ?_ hd
  rw [loadName_read S.loc.kind hk]
  unfold loadGlobal
  rw [S.envg.1, S.envg.2]
  have hm : g.mg x = none := ns_none_of g.kin g.glob hv
  refine wpAny_bind (wpAny_nsGet (g.glob.keeps S.base) ?_)
  rw [hm]
  refine wpAny_bind (wpAny_nsGet (g.blt.keeps S.base) ?_)
  rw [hb]
  exact wpAny_pure (OkP.now S rfl rfl rfl (.cst' v) h)
theorem e_bin {l r : Expr} {op : Operator} {pos : Pos}
    (h : WE g F (eval l F.env) m H (kR g F r (binaryOp op) Q X) X) : WE g F (eval (.BinOp l op r pos) F.env) m H Q X :=
  fun s S => wpAny_BinOp (h.run S (fun _ _ _ _ _ r₁ S₁ k₁ h₁ => h₁.run S₁ (fun _ _ _ _ _ r₂ S₂ k₂ h₂ =>
    wpAny_mono (h₂ _ _ _ S₂ (r₁.keep S₁ k₂) r₂) (fun _ _ x => x.after (k₁.trans k₂)) (fun _ _ x => x.after (k₁.trans k₂))) (fun _ _ x => x.after k₁)) (fun _ _ x => x))
theorem e_cmp {l r : Expr} {op : CmpOp} {pos : Pos} (hm : behindInMarks op r = false)
    (h : WE g F (eval l F.env) m H (kR g F r (compareOp op) Q X) X) : WE g F (eval (.Compare l [op] [r] pos) F.env) m H Q X :=
  fun s S => wpAny_Compare1 (h.run S (fun _ _ _ _ _ r₁ S₁ k₁ h₁ => h₁.run S₁ (fun _ _ _ _ _ r₂ S₂ k₂ h₂ =>
    wpAny_mono (h₂ _ _ _ S₂ (r₁.keep S₁ k₂) r₂) (fun _ _ x => x.after (k₁.trans k₂)) (fun _ _ x => x.after (k₁.trans k₂))) (fun _ _ x => x.after k₁)) (fun _ _ x => x)) hm
theorem e_un {x : Expr} {op : UnaryOp} {pos : Pos} (h : WE g F (eval x F.env) m H (k1 g F VR (unaryOp op) Q X) X) : WE g F (eval (.UnaryOp op x pos) F.env) m H Q X :=
  fun s S => wpAny_UnaryOp (h.run S (fun _ _ _ _ _ r₁ S₁ k₁ h₁ => wpAny_mono (h₁ _ _ S₁ r₁) (fun _ _ x => x.after k₁) (fun _ _ x => x.after k₁)) (fun _ _ x => x))
theorem e_if {t b o : Expr} {pos : Pos} (h : WB g F (isTrue t F.env (eval t F.env)) m H (fun c m H => if c then WE g F (eval b F.env) m H Q X else WE g F (eval o F.env) m H Q X) X) : WE g F (eval (.IfExp t b o pos) F.env) m H Q X :=
  fun s S => wpAny_IfExp (h.run S (fun c s₁ c' m₁ H₁ r₁ S₁ k₁ h₁ => by
    cases r₁
    cases c
    · exact h₁.run S₁ (fun _ _ b m H r S' k q => ⟨b, m, H, r, S', k₁.trans k, q⟩) (fun _ _ x => x.after k₁)
    · exact h₁.run S₁ (fun _ _ b m H r S' k q => ⟨b, m, H, r, S', k₁.trans k, q⟩) (fun _ _ x => x.after k₁)) (fun _ _ x => x))
theorem e_and {x y : Expr} {pos : Pos} (h : WE g F (eval x F.env) m H (fun a m H => W1 g F EqR a truthy m H (fun c m H => if c then WE g F (eval y F.env) m H Q X else Q a m H) X) X) : WE g F (eval (.BoolOp .And [x, y] pos) F.env) m H Q X :=
  fun s S => wpAny_And2 (h.run S (fun v s₁ a m₁ H₁ r₁ S₁ k₁ h₁ => wpAny_mono (h₁ _ _ S₁ r₁) (fun c s₂ yy => yy.elim fun c' m₂ H₂ rc S₂ k₂ h₂ => by
    cases rc
    cases c
    · exact ⟨a, m₂, H₂, r₁.keep S₁ k₂, S₂, k₁.trans k₂, h₂⟩
    · exact h₂.run S₂ (fun _ _ b m H r S' k q => ⟨b, m, H, r, S', (k₁.trans k₂).trans k, q⟩) (fun _ _ x => x.after (k₁.trans k₂))) (fun _ _ x => x.after k₁)) (fun _ _ x => x))
theorem l_nil {pos : Pos} {Q : List V → Loc → AH → Prop} (h : Q [] m H) : WL g F (spliced (backTo pos (starEach [] F.env))) m H Q X := fun s S => wpAny_items_nil (OkP.now S rfl rfl rfl .nil' h)
theorem l_cons {pos : Pos} {e : Expr} {rest : List Expr} {Q : List V → Loc → AH → Prop}
    (h : WE g F (eval e F.env) m H (kL g F pos rest Q X) X)
    (he : starEach (e :: rest) F.env = (false, eval e F.env) :: starEach rest F.env := by rfl) : WL g F (spliced (backTo pos (starEach (e :: rest) F.env))) m H Q X :=
  fun s S => wpAny_items_cons (h.run S (fun v s₁ a m₁ H₁ r₁ S₁ k₁ h₁ => h₁.run S₁ (fun vs s₂ as m₂ H₂ r₂ S₂ k₂ h₂ => ⟨a :: as, m₂, H₂, .cons (r₁.keep S₁ k₂) r₂, S₂, k₁.trans k₂, h₂⟩) (fun _ _ x => x.after k₁)) (fun _ _ x => x)) he
theorem e_tup {elts : List Expr} {k : Nat} {pos : Pos} (h : WL g F (spliced (backTo pos (starEach elts F.env))) m H (kTup Q) X) : WE g F (eval (.Tuple elts k pos) F.env) m H Q X :=
  fun s S => wpAny_Tuple (h.run S (fun vs s₁ as m₁ H₁ r₁ S₁ k₁ h₁ => by
    refine ⟨by rw [r₁.length]; exact h₁.1, ?_⟩
    have C : ∀ b o, s₁.heap.get? b = some o → (s₁.heap.push (tupObj vs 0)).get? b = some o := fun _ _ e => Heap.get?_push_of_some _ e
    obtain ⟨S', k'⟩ := S₁.ext (t := s₁.toks) C
    exact ⟨.tup as, m₁, H₁, .tup' (S₁.okn (Nat.le_refl _)) (Heap.get?_push_size _ rfl) (r₁.mono (fun _ _ _ e => C _ _ e)), S', k₁.trans k', h₁.2⟩) (fun _ _ x => x))
theorem e_list {elts : List Expr} {pos : Pos} (h : WL g F (spliced (backTo pos (starEach elts F.env))) m H (kList Q) X) : WE g F (eval (.List elts pos) F.env) m H Q X :=
  fun s S => wpAny_List (h.run S (fun vs s₁ as m₁ H₁ r₁ S₁ k₁ h₁ => by
    refine ⟨by rw [r₁.length]; exact h₁.1, ?_⟩
    have C : ∀ b o, s₁.heap.get? b = some o → (s₁.heap.push (lstObj vs 0)).get? b = some o := fun _ _ e => Heap.get?_push_of_some _ e
    have n : s₁.heap.get? s₁.heap.objs.size = none := Heap.get?_none_of_le (Nat.le_refl _)
    obtain ⟨S', k'⟩ := S₁.new (t := s₁.toks) (o' := .list as) C n ⟨vs, 0, Heap.get?_push_size _ rfl, r₁.mono (fun _ _ _ e => C _ _ e)⟩
    exact ⟨.ref _, m₁, _, .ref' _, S', k₁.trans k', h₁.2 _ (S₁.untracked n)⟩) (fun _ _ x => x))
theorem t_cmp {l r : Expr} {op : CmpOp} {pos : Pos} {whole : Sem Value} {Q : Bool → Loc → AH → Prop} (hm : behindInMarks op r = false)
    (h : WE g F (eval l F.env) m H (kR g F r (compareOp op) (k1 g F EqR truthy Q X) X) X) : WB g F (isTrue (.Compare l [op] [r] pos) F.env whole) m H Q X :=
  fun s S => wpAny_isTrue_Compare1 (h.run S (fun _ _ _ _ _ r₁ S₁ k₁ h₁ => h₁.run S₁ (fun _ _ _ _ _ r₂ S₂ k₂ h₂ =>
    wpAny_mono (h₂ _ _ _ S₂ (r₁.keep S₁ k₂) r₂) (fun _ _ yy => yy.elim fun c m₃ H₃ r₃ S₃ k₃ h₃ => wpAny_mono (h₃ _ _ S₃ r₃) (fun _ _ x => x.after ((k₁.trans k₂).trans k₃)) (fun _ _ x => x.after ((k₁.trans k₂).trans k₃)))
      (fun _ _ x => x.after (k₁.trans k₂))) (fun _ _ x => x.after k₁)) (fun _ _ x => x)) hm
theorem t_not {x : Expr} {pos : Pos} {whole : Sem Value} {Q : Bool → Loc → AH → Prop} (h : WB g F (isTrue x F.env (eval x F.env)) m H (kNot Q) X) : WB g F (isTrue (.UnaryOp .Not x pos) F.env whole) m H Q X :=
  fun s S => wpAny_isTrue_Not (h.run S (fun b s₁ b' m₁ H₁ r₁ S₁ k₁ h₁ => by cases r₁; exact ⟨_, m₁, H₁, rfl, S₁, k₁, h₁⟩) (fun _ _ x => x))
theorem t_val {e : Expr} {Q : Bool → Loc → AH → Prop} (h : WE g F (eval e F.env) m H (k1 g F EqR truthy Q X) X)
    (he : isTrue e F.env (eval e F.env) = (do let v ← eval e F.env; standAt e.pos; holding [v] (truthy v)) := by rfl) : WB g F (isTrue e F.env (eval e F.env)) m H Q X :=
  fun s S => wpAny_isTrue_value (h.run S (fun _ _ _ _ _ r₁ S₁ k₁ h₁ => wpAny_mono (h₁ _ _ S₁ r₁) (fun _ _ x => x.after k₁) (fun _ _ x => x.after k₁)) (fun _ _ x => x)) he
theorem t_bool {op : BoolOp} {vs : List Expr} {pos : Pos} {whole : Sem Value} {Q : Bool → Loc → AH → Prop} (h : WB g F (allTrue op vs F.env) m H Q X) : WB g F (isTrue (.BoolOp op vs pos) F.env whole) m H Q X :=
  fun s S => wpAny_isTrue_BoolOp (h s S)
theorem t_or_nil {Q : Bool → Loc → AH → Prop} (h : Q false m H) : WB g F (allTrue .Or [] F.env) m H Q X := fun s S => wpAny_allTrue_Or_nil (OkP.now S rfl rfl rfl rfl h)
theorem t_or {x : Expr} {rest : List Expr} {Q : Bool → Loc → AH → Prop} (h : WB g F (isTrue x F.env (eval x F.env)) m H (fun b m H => if b then Q true m H else WB g F (allTrue .Or rest F.env) m H Q X) X) : WB g F (allTrue .Or (x :: rest) F.env) m H Q X :=
  fun s S => wpAny_allTrue_Or_cons (h.run S (fun b s₁ b' m₁ H₁ r₁ S₁ k₁ h₁ => by
    cases r₁
    cases b
    · exact h₁.run S₁ (fun _ _ b m H r S' k q => ⟨b, m, H, r, S', k₁.trans k, q⟩) (fun _ _ x => x.after k₁)
    · exact ⟨_, m₁, H₁, rfl, S₁, k₁, h₁⟩) (fun _ _ x => x))
end
end Mine
end
section
open PySem PySem.W PySem.Calls PyProof.Rows
set_option linter.unusedSectionVars false
set_option linter.unusedVariables false
namespace Mine
variable [ζ : Dead]
section
variable {g : G} {F : Fm} {m : Loc} {H : AH} {X : Value → List V → Loc → AH → Prop}
noncomputable def Stores (F : Fm) (x : Str) : Prop := F.env.kindOf x = some .local ∨ (F.env.kindOf x = some .cell ∧ ∃ c, F.env.cells.lookup x = some c ∧ c ∈ F.mine)
theorem n_store {x : Str} {a : V} {Q : Loc → AH → Prop} (hx : Stores F x) (h : Q (setL m x a) H) : W1 g F EqR a (fun v => storeName F.env x v) m H (fun (_ : Unit) m H => Q m H) X := fun s v S r => by
  obtain ⟨kd, ⟨mr, hn, hm⟩, cl, ap⟩ := S.loc
  rcases hx with hx | ⟨hx, c, hc, hcm⟩
  · refine wpAny_storeName_local hx hn (fun h' hn' hs => ?_) (by rw [kd]; rfl)
    obtain ⟨oL, esL, epL, eL, dL, rL⟩ := id hn'
    have C : Chg (· = F.env.locals) s.heap h' := .sameBut hs eL fun _ _ _ _ _ => ⟨_, _, dL⟩
    have cne : ∀ y c, F.env.cells.lookup y = some c → c ≠ F.env.locals := fun y c hy q => by
      obtain ⟨_, v₀, o, e, d⟩ := cl y c hy
      obtain ⟨o₂, es₂, ep₂, e₂, d₂, _⟩ := hn
      rw [q, e₂] at e; cases e; rw [d₂] at d; cases d
    have tup : ∀ a o, Imm a o → s.heap.get? a = some o → h'.get? a = some o := fun a o i e => C.same a _ e fun q => by subst q; exact (S.tupFree i e).2.1 S.locm
    have L' : LocOk F (setL m x a) H h' := ⟨kd, ⟨_, hn', fun y b hy => by
        unfold setL at hy
        by_cases q : y = x
        · subst q; rw [if_pos rfl] at hy; cases hy
          exact ⟨v, r.mono tup, .inl ⟨hx, if_pos rfl⟩⟩
        · rw [if_neg q] at hy
          obtain ⟨u, ru, z⟩ := hm y b hy
          refine ⟨u, ru.mono tup, ?_⟩
          rcases z with ⟨z1, z2⟩ | ⟨z1, c, z2, z3⟩
          · exact .inl ⟨z1, by rw [if_neg q]; exact z2⟩
          · exact .inr ⟨z1, c, z2, z3.sameBut hs (cne y c z2)⟩⟩,
      fun y c hy => ⟨(cl y c hy).1, ((cl y c hy).2).elim fun u z => ⟨u, z.sameBut hs (cne y c hy)⟩⟩, ap⟩
    obtain ⟨S', k⟩ := S.own (t := s.toks + 1) S.locm C ⟨_, eL, .inl ⟨_, _, dL⟩⟩ (fun _ _ _ _ _ => ⟨_, _, _, eL, dL⟩) L'
    exact ⟨(), _, _, rfl, S', k, h⟩
  · obtain ⟨_, v₀, ic⟩ := cl x c hc
    refine wpAny_storeName_cell kd hx hc ic (fun h' ic' hs => ?_)
    obtain ⟨oc, ec, dc⟩ := id ic'
    have C : Chg (· = c) s.heap h' := .sameBut hs ec fun o₀ es ep e d => by obtain ⟨o', e', d'⟩ := ic; rw [e'] at e; cases e; rw [d'] at d; cases d
    have lne : F.env.locals ≠ c := fun q => by
      obtain ⟨o, e, d⟩ := ic
      obtain ⟨o₂, es₂, ep₂, e₂, d₂, _⟩ := hn
      rw [q, e] at e₂; cases e₂; rw [d] at d₂; cases d₂
    have tup : ∀ a o, Imm a o → s.heap.get? a = some o → h'.get? a = some o := fun a o i e => C.same a _ e fun q => by subst q; exact (S.tupFree i e).2.1 hcm
    have L' : LocOk F (setL m x a) H h' := ⟨kd, ⟨mr, hn.sameBut hs lne, fun y b hy => by
        unfold setL at hy
        by_cases q : y = x
        · subst q; rw [if_pos rfl] at hy; cases hy
          exact ⟨v, r.mono tup, .inr ⟨.inl hx, c, hc, ic'⟩⟩
        · rw [if_neg q] at hy
          obtain ⟨u, ru, z⟩ := hm y b hy
          refine ⟨u, ru.mono tup, ?_⟩
          rcases z with z | ⟨z1, c', z2, z3⟩
          · exact .inl z
          · exact .inr ⟨z1, c', z2, z3.sameBut hs fun e => q (ap y x c (e ▸ z2) hc)⟩⟩,
      fun y c' hy => ⟨(cl y c' hy).1, by
        by_cases q : c' = c
        · subst q; exact ⟨_, ic'⟩
        · obtain ⟨u, z⟩ := (cl y c' hy).2; exact ⟨u, z.sameBut hs q⟩⟩, ap⟩
    obtain ⟨S', k⟩ := S.own (t := s.toks) hcm C ⟨_, ec, .inr ⟨_, dc⟩⟩ (fun o es ep e d => by obtain ⟨o', e', d'⟩ := ic; rw [e'] at e; cases e; rw [d'] at d; cases d) L'
    exact ⟨(), _, _, rfl, S', k, h⟩
variable {Q : Fl → Loc → AH → Prop}
theorem s_nil (h : Q .next m H) : WS g F (execs [] F.env) m H Q X := fun s S => wpAny_execs_nil (OkP.now (b := Fl.next) S rfl rfl rfl rfl h)
theorem s_cons {st : Stmt} {rest : List Stmt} (h : WS g F (exec st F.env) m H (kTail g F rest Q X) X) : WS g F (execs (st :: rest) F.env) m H Q X :=
  fun s S => wpAny_execs_cons (h.run S (fun f s₁ f' m₁ H₁ r₁ S₁ k₁ h₁ => by
    cases f' with
    | next => cases r₁; exact h₁.run S₁ (fun _ _ b m H r S' k q => ⟨b, m, H, r, S', k₁.trans k, q⟩) (fun _ _ x => x.after k₁)
    | brk => cases r₁; exact ⟨.brk, m₁, H₁, rfl, S₁, k₁, h₁⟩
    | cont => cases r₁; exact ⟨.cont, m₁, H₁, rfl, S₁, k₁, h₁⟩
    | ret x => obtain ⟨v, rfl, rv⟩ := r₁; exact ⟨.ret x, m₁, H₁, ⟨v, rfl, rv⟩, S₁, k₁, h₁⟩) (fun _ _ x => x))
theorem s_break {pos : Pos} (h : Q .brk m H) : WS g F (exec (.Break pos) F.env) m H Q X := fun s S => wpAny_Break (OkP.now (b := Fl.brk) S rfl rfl rfl rfl h)
theorem s_cont {pos : Pos} (h : Q .cont m H) : WS g F (exec (.Continue pos) F.env) m H Q X := fun s S => wpAny_Continue (OkP.now (b := Fl.cont) S rfl rfl rfl rfl h)
theorem s_ret {e : Expr} {pos : Pos} (h : WE g F (eval e F.env) m H (kRet Q) X) : WS g F (exec (.Return (some e) pos) F.env) m H Q X :=
  fun s S => wpAny_Return_some (h.run S (fun v _ a m₁ H₁ r₁ S₁ k₁ h₁ => ⟨.ret a, m₁, H₁, ⟨v, rfl, r₁⟩, S₁, k₁, h₁⟩) (fun _ _ x => x))
theorem s_if {t : Expr} {b o : List Stmt} {pos : Pos} (h : WB g F (isTrue t F.env (eval t F.env)) m H (fun c m H => if c then WS g F (execs b F.env) m H Q X else WS g F (execs o F.env) m H Q X) X) : WS g F (exec (.If t b o pos) F.env) m H Q X :=
  fun s S => wpAny_If (h.run S (fun c s₁ c' m₁ H₁ r₁ S₁ k₁ h₁ => by
    cases r₁
    cases c
    · exact h₁.run S₁ (fun _ _ b m H r S' k q => ⟨b, m, H, r, S', k₁.trans k, q⟩) (fun _ _ x => x.after k₁)
    · exact h₁.run S₁ (fun _ _ b m H r S' k q => ⟨b, m, H, r, S', k₁.trans k, q⟩) (fun _ _ x => x.after k₁)) (fun _ _ x => x))
theorem s_assign {x : Str} {pos' pos : Pos} {e : Expr} (hx : Stores F x) (hs : swapsWith e (some (.Name x pos')) pos.line F.env = pure false) (h : WE g F (eval e F.env) m H (kSt Q x) X) :
    WS g F (exec (.Assign [.Name x pos'] e pos) F.env) m H Q X :=
  fun s S => wpAny_Assign_Name (h.run S (fun v s₁ a m₁ H₁ r₁ S₁ k₁ h₁ => wpAny_mono (n_store (X := X) (Q := fun m H => Q .next m H) hx h₁ s₁ v S₁ r₁) (fun _ _ yy => yy.elim fun _ m₂ H₂ _ S₂ k₂ h₂ => ⟨.next, m₂, H₂, rfl, S₂, k₁.trans k₂, h₂⟩) (fun _ _ x => x.after k₁)) (fun _ _ x => x)) hs
noncomputable abbrev WA (g : G) (F : Fm) (t : Expr) (a : V) (m : Loc) (H : AH) (Q : Loc → AH → Prop) (X : Value → List V → Loc → AH → Prop) : Prop := W1 g F EqR a (fun v => assign t F.env v) m H (fun (_ : Unit) m H => Q m H) X
theorem a_name {x : Str} {pos : Pos} {a : V} {Q : Loc → AH → Prop} (hx : Stores F x) (h : Q (setL m x a) H) : WA g F (.Name x pos) a m H Q X := fun s v S r =>
  wpAny_bind (wpAny_standAt (wpAny_bindName (n_store (X := X) hx h s v S r)))
theorem e_walrus {x : Str} {pos' pos : Pos} {e : Expr} {Q : V → Loc → AH → Prop} (hx : Stores F x) (h : WE g F (eval e F.env) m H (kW Q x) X) : WE g F (eval (.NamedExpr (.Name x pos') e pos) F.env) m H Q X :=
  fun s S => wpAny_NamedExpr (h.run S (fun v s₁ a m₁ H₁ r₁ S₁ k₁ h₁ => wpAny_mono (a_name (X := X) (pos := pos') (Q := fun m H => Q a m H) hx h₁ s₁ v S₁ r₁) (fun _ _ yy => yy.elim fun _ m₂ H₂ _ S₂ k₂ h₂ => ⟨a, m₂, H₂, r₁.keep S₁ k₂, S₂, k₁.trans k₂, h₂⟩) (fun _ _ x => x.after k₁)) (fun _ _ x => x))
theorem s_assign1 {t : Expr} {pos : Pos} {e : Expr} (hs : swapsWithSole [t] e pos.line F.env = pure false) (hw : swappedStores [t] e F.env = pure none) (he : (assignEach [t] F.env).map (·.2) = [assign t F.env])
    (h : WE g F (eval e F.env) m H (fun a m H => WA g F t a m H (kN Q) X) X) : WS g F (exec (.Assign [t] e pos) F.env) m H Q X :=
  fun s S => wpAny_Assign_stores (h.run S (fun v s₁ a m₁ H₁ r₁ S₁ k₁ h₁ => by
    rw [he]
    exact wpAny_mono (h₁ s₁ v S₁ r₁) (fun _ _ yy => yy.elim fun _ m₂ H₂ _ S₂ k₂ h₂ => ⟨.next, m₂, H₂, rfl, S₂, k₁.trans k₂, h₂⟩) (fun _ _ x => x.after k₁)) (fun _ _ x => x)) hs hw
theorem s_assign2 {t₁ t₂ : Expr} {pos : Pos} {e : Expr} (he : (assignEach [t₁, t₂] F.env).map (·.2) = [assign t₁ F.env, assign t₂ F.env]) (hw : swappedStores [t₁, t₂] e F.env = pure none)
    (h : WE g F (eval e F.env) m H (fun a m H => WA g F t₁ a m H (fun m H => WA g F t₂ a m H (kN Q) X) X) X) : WS g F (exec (.Assign [t₁, t₂] e pos) F.env) m H Q X :=
  fun s S => wpAny_Assign_two (h.run S (fun v s₁ a m₁ H₁ r₁ S₁ k₁ h₁ => wpAny_mono (h₁ s₁ v S₁ r₁) (fun _ s₂ yy => yy.elim fun _ m₂ H₂ _ S₂ k₂ h₂ =>
    wpAny_mono (h₂ s₂ v S₂ (r₁.keep S₁ k₂)) (fun _ _ yy => yy.elim fun _ m₃ H₃ _ S₃ k₃ h₃ => ⟨.next, m₃, H₃, rfl, S₃, (k₁.trans k₂).trans k₃, h₃⟩) (fun _ _ x => x.after (k₁.trans k₂))) (fun _ _ x => x.after k₁)) (fun _ _ x => x)) he hw
end
end Mine
end
section
open PySem PySem.W PySem.Calls PyProof.Rows
set_option linter.unusedSectionVars false
set_option linter.unusedVariables false
namespace Mine
variable [ζ : Dead]
section
variable {g : G} {F : Fm} {m : Loc} {H : AH} {s : Shared} {h₀ : Heap} {H₀ : AH}
theorem St.recd {b : Addr} {o : Obj} {vs : Array Value} {f : Obj → Obj} (S : St g F m H s) (e : s.heap.get? b = some o) (hd : o.data = .fields vs) (hH : H b = none) (hB : g.B.get? b = none) (hi : immC o.cls = false) (hf : (f o).isFreed = false) :
    St g F m H { s with heap := s.heap.update b f } ∧ (Keep F h₀ H₀ s.heap H → h₀.get? b = none → Keep F h₀ H₀ (s.heap.update b f) H) := by
  have ne : ∀ c o', s.heap.get? c = some o' → (∀ vs, o'.data ≠ .fields vs) → c ≠ b := fun c o' e' n q => by subst q; rw [e] at e'; cases e'; exact n _ hd
  have other : ∀ c, c ≠ b → (s.heap.update b f).get? c = s.heap.get? c := fun c n => Heap.get?_update_other _ _ (Ne.symm n)
  have al : ∀ c o', s.heap.get? c = some o' → ∃ o'', (s.heap.update b f).get? c = some o'' := fun c o' e' => by
    by_cases q : c = b
    · subst q; exact ⟨_, Heap.get?_update_self f e hf⟩
    · exact ⟨o', (other c q).trans e'⟩
  have dc : Dct s.heap (s.heap.update b f) := fun c o' es ep e' d => ⟨o', es, ep, (other c (ne c o' e' fun vs z => by rw [d] at z; cases z)).trans e', d⟩
  have mn : Mono s.heap (s.heap.update b f) := ⟨fun a o' i e' => (other a fun q => by subst q; rw [e] at e'; cases e'; rw [i.cls] at hi; cases hi).trans e', dc⟩
  have own : ∀ c o', s.heap.get? c = some o' → Own o' → c ≠ b := fun c o' e' w => ne c o' e' fun vs z => by rcases w with ⟨_, _, w⟩ | ⟨_, w⟩ <;> rw [w] at z <;> cases z
  refine ⟨⟨fun c o' e' => (other c fun q => by subst q; rw [hB] at e'; cases e').trans (S.base c o' e'), fun c o' e' => ?_, ?_, S.locm, fun c hc => ?_, ?_, fun c hc => ?_, S.frame, S.Afr, S.gens, S.os, S.room, S.envg, S.deadK al⟩, fun K n0 => ⟨fun c o' e' => (K.alive c o' e').elim fun _ e'' => al c _ e'', K.dct.trans dc, fun c o' e' n hc => ?_⟩⟩
  · obtain ⟨b1, b2⟩ := S.obj c o' e'
    exact ⟨b1, b2.mono mn (other c fun q => by subst q; rw [hH] at e'; cases e')⟩
  · refine S.loc.mono mn (fun y c hy => (S.locIs c (.inr ⟨y, hy⟩)).1) fun c hc o' e' => .inl ?_
    obtain ⟨_, o'', e'', w⟩ := S.locIs c hc
    rw [e''] at e'; cases e'
    exact (other c (own c _ e'' w)).trans e''
  · obtain ⟨h1, h2, o', h3, h4⟩ := S.mine c hc
    exact ⟨h1, h2, o', (other c (own c _ h3 h4)).trans h3, h4⟩
  · refine funFrames_mono S.frs fun c hc o' e' => ?_
    obtain ⟨_, o'', es, ep, e'', d⟩ := S.frd c hc
    rw [e''] at e'; cases e'
    exact ⟨_, (other c (own c _ e'' (.inl ⟨_, _, d⟩))).trans e'', id⟩
  · obtain ⟨h1, o', es, ep, h3, h4⟩ := S.frd c hc
    exact ⟨h1, o', es, ep, (other c (own c _ h3 (.inl ⟨_, _, h4⟩))).trans h3, h4⟩
  · obtain ⟨n', z⟩ := K.same c o' e' n hc
    have cb : c ≠ b := fun q => by subst q; rw [n0] at e'; cases e'
    rw [other c cb]; exact ⟨n', z⟩
theorem St.slots {h₁ : Heap} (S : St g F m H s) (sl : Heap.SlotsOnly F.fr s.heap h₁) : St g F m H { s with heap := h₁ } ∧ Keep F s.heap H h₁ H := by
  have al : ∀ c o', s.heap.get? c = some o' → ∃ o'', h₁.get? c = some o'' := fun c o' e' => (sl.2.2 c o' e').elim fun _ z => ⟨_, z⟩
  have dc : Dct s.heap h₁ := fun c o' es ep e' d => (sl.2.2 c o' e').elim fun _ z => ⟨_, es, ep, z, d⟩
  have mn : Mono s.heap h₁ := ⟨fun a o i e' => (sl.2.1 a (S.tupFree i e').2.2).trans e', dc⟩
  have up : ∀ c o', s.heap.get? c = some o' → h₁.get? c = some o' ∨ (c ∈ F.fr ∧ ∃ x, h₁.get? c = some { o' with slots := x }) := fun c o' e' => by
    by_cases q : c ∈ F.fr
    · exact .inr ⟨q, sl.2.2 c o' e'⟩
    · exact .inl ((sl.2.1 c q).trans e')
  refine ⟨⟨fun c o' e' => ?_, fun c o' e' => ?_, ?_, S.locm, fun c hc => ?_, ?_, fun c hc => ?_, S.frame, S.Afr, S.gens, S.os, S.room, S.envg, S.deadK al⟩, al, dc, fun c o' e' n _ => ⟨n, up c o' e'⟩⟩
  · have : c ∉ F.fr := fun q => by
      have := (S.frs.mem q).1
      rw [e'] at this; cases this
    exact (sl.2.1 c this).trans (S.base c o' e')
  · obtain ⟨b1, b2⟩ := S.obj c o' e'
    exact ⟨b1, b2.mono mn (sl.2.1 c fun q => by have := (S.frd c q).1; rw [e'] at this; cases this)⟩
  · refine S.loc.mono mn (fun y c hy => (S.locIs c (.inr ⟨y, hy⟩)).1) fun c hc o' e' => (up c o' e').imp id fun z => z.2
  · obtain ⟨h1, h2, o', h3, h4⟩ := S.mine c hc
    rcases up c o' h3 with z | ⟨_, x, z⟩
    · exact ⟨h1, h2, o', z, h4⟩
    · exact ⟨h1, h2, _, z, h4⟩
  · refine funFrames_mono S.frs fun c hc o' e' => ?_
    rcases up c o' e' with z | ⟨_, x, z⟩
    · exact ⟨_, z, id⟩
    · exact ⟨_, z, id⟩
  · obtain ⟨h1, o', es, ep, h3, h4⟩ := S.frd c hc
    rcases up c o' h3 with z | ⟨_, x, z⟩
    · exact ⟨h1, o', es, ep, z, h4⟩
    · exact ⟨h1, _, es, ep, z, h4⟩
noncomputable def FlyT (h : Heap) (e c : Value) (as : List V) (h' : Heap) (H' : AH) : Prop :=
  ∃ a o vs v T oT ts x, FlyA h e c as h' H' a o vs v (FlyB h h' H' a vs T oT ts x)
theorem FlyT.fly {h h' : Heap} {H' : AH} {e c : Value} {as : List V} (x : FlyT h e c as h' H') : Fly h e c as h' H' := by
  obtain ⟨a, o, vs, v, T, oT, ts, y, h1, h2, h3, h4, h5, h6, h7, h8, h9, r⟩ := x
  exact ⟨a, o, vs, v, h1, h2, h3, h4, h5, h6, h7, h8, h9, .inr ⟨T, oT, ts, y, r⟩⟩
theorem Keep.base (S : St g F m H s) {b : Addr} (K : Keep F h₀ H₀ s.heap H) (B0 : g.B.StaysIn h₀) (e : h₀.get? b = none) : g.B.get? b = none := by
  cases q : g.B.get? b with
  | none => rfl
  | some o => rw [B0 b o q] at e; cases e
theorem note_new {c : Value} {as : List V} {a : Addr} {o : Obj} {vs : Array Value} {v head : Value} {b : Bool} {L : Addr} {Q : Unit → Shared → Prop} {E : Value → Shared → Prop} (S : St g F m H s) (K : Keep F h₀ H₀ s.heap H) (B0 : g.B.StaysIn h₀)
    (hL : F.env.frame = some L) (h2 : h₀.get? a = none) (h3 : H a = none) (h4 : s.heap.get? a = some o) (h5 : o.cls = c) (h6 : immC c = false) (h7 : o.data = .fields vs) (h8 : vs[0]? = some v) (h9 : VR s.heap (.tup as) v) (hsz : 1 < vs.size)
    (h : ∀ s', St g F m H s' → Keep F h₀ H₀ s'.heap H → FlyT h₀ (.ref a) c as s'.heap H → Q () s') :
    wpAny (model g.prog g.w) F.A (do let x ← PySem.frameOf F.env; let pl ← entryPlaceOf L b; let y ← EntryCells.newEntry head x .none (rawInt L) .none pl; setField (.ref a) 1 y) Q E s := by
  have hfr := S.frame
  rw [hL] at hfr
  obtain ⟨env₀, outer, hst, hf0⟩ : ∃ e r, F.stack = e :: r ∧ e.frame = some L := by
    cases q : F.stack with
    | nil => rw [q] at hfr; cases hfr
    | cons e r => rw [q] at hfr; exact ⟨e, r, rfl, hfr.symm⟩
  have hB : g.B.get? a = none := Keep.base S K B0 h2
  refine wpAny_bind (wpAny_bind (wpAny_frameEnvs S.Afr ?_))
  have hdw : (F.stack.dropWhile fun x => x.frame != F.env.frame) = env₀ :: outer := by rw [hst, hL]; simp [List.dropWhile, hf0]
  rw [hdw]
  refine wpAny_bind (wpAny_bind (wpAny_readyFrames_fun (base := g.B) (hst ▸ S.frs) fun h₁ hs₁ => wpAny_pure ?_))
  rw [hf0]
  refine wpAny_pure ?_
  obtain ⟨S₁, K₁⟩ := S.slots (h₁ := h₁) (by unfold Fm.fr; rw [hst]; exact hs₁)
  have K₁' := K.trans K₁
  have na : a ∉ F.fr := fun q => by obtain ⟨_, o', es, ep, e', d⟩ := S.frd a q; rw [h4] at e'; cases e'; rw [h7] at d; cases d
  have h4₁ : h₁.get? a = some o := by
    refine (hs₁.2.1 a ?_).trans h4
    unfold Fm.fr at na; rw [hst] at na; exact na
  refine wpAny_bind (wpAny_entryPlaceOf fun pl hpl => ?_)
  refine wpAny_bind (wpAny_newObj_type ?_ (hpl.sizeOk5 _ _ _ _ _))
  have nT : h₁.get? h₁.objs.size = none := Heap.get?_none_of_le (Nat.le_refl _)
  have C : ∀ b o, h₁.get? b = some o → (h₁.push { cls := .type "traceback", dict := none, data := .fields ([head, .ref L, .none, rawInt L, .none] ++ (if pl.isEmpty then List.replicate 6 Value.none else pl)).toArray }).get? b = some o := fun _ _ e => Heap.get?_push_of_some _ e
  obtain ⟨S₂, K₂⟩ := S₁.ext (t := s.toks) C
  have h4₂ := C a o h4₁
  have hd₃ := Obj.data_mapFields h7 (·.setIfInBounds 1 (Value.ref h₁.objs.size))
  obtain ⟨S₃, K₃⟩ := S₂.recd (h₀ := h₀) (H₀ := H₀) (f := Obj.mapFields (·.setIfInBounds 1 (Value.ref h₁.objs.size))) h4₂ h7 h3 hB (h5 ▸ h6) (Obj.isFreed_of_fields hd₃)
  refine wpAny_setField h4₂ h7 hsz (h _ S₃ (K₃ (K₁'.trans K₂) h2) ?_)
  have hTa : h₁.objs.size ≠ a := Nat.ne_of_gt (Heap.lt_size h4₁)
  have n0 : h₀.get? h₁.objs.size = none := by
    cases q : h₀.get? h₁.objs.size with
    | none => rfl
    | some o' => obtain ⟨o'', z⟩ := K₁'.alive _ o' q; have z' : h₁.get? h₁.objs.size = some o'' := z; rw [nT] at z'; cases z'
  refine ⟨a, _, _, v, h₁.objs.size, _, _, rawInt L, rfl, h2, h3, Heap.get?_update_self _ h4₂ (Obj.isFreed_of_fields hd₃), (Obj.cls_mapFields ..).trans h5, h6, hd₃, ?_, ?_, ?_, hTa, n0, S₁.untracked nT,
    (Heap.get?_update_other _ _ (Ne.symm hTa)).trans (Heap.get?_push_size _ rfl), rfl, rfl, ?_⟩
  · simp only [Array.getElem?_setIfInBounds]; simpa using h8
  · have := (h9.keep S K₁).keep S₁ (s' := { s with heap := h₁.push { cls := .type "traceback", dict := none, data := .fields ([head, .ref L, .none, rawInt L, .none] ++ (if pl.isEmpty then List.replicate 6 Value.none else pl)).toArray } }) K₂
    refine this.mono fun x ob i e => (Heap.get?_update_other _ _ fun q => ?_).trans e
    subst q; rw [h4₂] at e; cases e; rw [← h5, i.cls] at h6; cases h6
  · simp [Array.getElem?_setIfInBounds, hsz]
  · rcases hpl with rfl | ⟨_, _, _, _, _, _, _, rfl⟩ <;> simp
theorem note {e c : Value} {as : List V} {Q : Unit → Shared → Prop} {E : Value → Shared → Prop} (S : St g F m H s) (K : Keep F h₀ H₀ s.heap H) (B0 : g.B.StaysIn h₀) (f : Fly h₀ e c as s.heap H) (hL : ∃ L, F.env.frame = some L)
    (h : ∀ s', St g F m H s' → Keep F h₀ H₀ s'.heap H → FlyT h₀ e c as s'.heap H → Q () s') : wpAny (model g.prog g.w) F.A (noteFrame e F.env) Q E s := by
  obtain ⟨L, hL⟩ := hL
  obtain ⟨a, o, vs, v, rfl, h2, h3, h4, h5, h6, h7, h8, h9, h10⟩ := f
  unfold noteFrame
  simp only [hL]
  have hB : g.B.get? a = none := Keep.base S K B0 h2
  rcases h10 with h1 | ⟨T, oT, ts, x, t1, t2, t3, t4, t5, t6, t7, t8⟩
  · have hsz : 1 < vs.size := (Array.getElem?_eq_some_iff.mp h1).1
    refine wpAny_bind (wpAny_field h4 h7 h1 ?_)
    rw [if_neg (by decide)]
    exact note_new S K B0 hL h2 h3 h4 h5 h6 h7 h8 h9 hsz h
  · have hsz : 1 < vs.size := (Array.getElem?_eq_some_iff.mp t1).1
    refine wpAny_bind (wpAny_field h4 h7 t1 ?_)
    rw [if_pos (show (Value.ref T != Value.none) = true from by simp)]
    refine wpAny_bind (wpAny_field t5 t7 t8 ?_)
    by_cases q : (x == rawInt L) = true
    · rw [if_pos q]
      exact wpAny_pure (h s S K ⟨a, o, vs, v, T, oT, ts, x, rfl, h2, h3, h4, h5, h6, h7, h8, h9, t1, t2, t3, t4, t5, t6, t7, t8⟩)
    · rw [if_neg q]
      have hBT : g.B.get? T = none := Keep.base S K B0 t3
      have hdT := Obj.data_mapFields t7 (·.setIfInBounds 3 Value.none)
      obtain ⟨S₁, K₁⟩ := S.recd (h₀ := h₀) (H₀ := H₀) (f := Obj.mapFields (·.setIfInBounds 3 Value.none)) t5 t7 t4 hBT t6 (Obj.isFreed_of_fields hdT)
      refine wpAny_bind (wpAny_setField t5 t7 (Array.getElem?_eq_some_iff.mp t8).1 ?_)
      refine note_new S₁ (K₁ K t3) B0 hL h2 h3 ((Heap.get?_update_other _ _ t2).trans h4) h5 h6 h7 h8 ?_ hsz h
      refine h9.mono fun y ob i e => (Heap.get?_update_other _ _ fun q => ?_).trans e
      subst q; rw [t5] at e; cases e; rw [i.cls] at t6; cases t6
theorem flight {e c : Value} {as : List V} {fr : Option Addr} {Q : Unit → Shared → Prop} {E : Value → Shared → Prop} (S : St g F m H s) (K : Keep F h₀ H₀ s.heap H) (B0 : g.B.StaysIn h₀) (f : FlyT h₀ e c as s.heap H)
    (h : ∀ s', St g F m H s' → Keep F h₀ H₀ s'.heap H → FlyT h₀ e c as s'.heap H → Q () s') : wpAny (model g.prog g.w) F.A (setFlight e fr) Q E s := by
  obtain ⟨a, o, vs, v, T, oT, ts, x, rfl, h2, h3, h4, h5, h6, h7, h8, h9, t1, t2, t3, t4, t5, t6, t7, t8⟩ := f
  refine wpAny_bind (wpAny_field h4 h7 t1 ?_)
  rw [if_pos (show (Value.ref T != Value.none) = true from by simp)]
  have hBT : g.B.get? T = none := Keep.base S K B0 t3
  have hs3 := (Array.getElem?_eq_some_iff.mp t8).1
  have hdT := Obj.data_mapFields t7 (·.setIfInBounds 3 (fr.elim Value.none fun f => rawInt f))
  obtain ⟨S₁, K₁⟩ := S.recd (h₀ := h₀) (H₀ := H₀) (f := Obj.mapFields (·.setIfInBounds 3 (fr.elim Value.none fun f => rawInt f))) t5 t7 t4 hBT t6 (Obj.isFreed_of_fields hdT)
  refine wpAny_setField t5 t7 hs3 (h _ S₁ (K₁ K t3) ⟨a, o, vs, v, T, _, _, (fr.elim Value.none fun f => rawInt f), rfl, h2, h3, (Heap.get?_update_other _ _ t2).trans h4, h5, h6, h7, h8, ?_, t1, t2, t3, t4,
    Heap.get?_update_self _ t5 (Obj.isFreed_of_fields hdT), by rw [Obj.cls_mapFields]; exact t6, hdT, by simp [Array.getElem?_setIfInBounds, hs3]⟩)
  refine h9.mono fun y ob i e => (Heap.get?_update_other _ _ fun q => ?_).trans e
  subst q; rw [t5] at e; cases e; rw [i.cls] at t6; cases t6
theorem noted {X : Value → List V → Loc → AH → Prop} {e : Value} (B0 : g.B.StaysIn h₀) (hL : ∃ L, F.env.frame = some L) {s' : Shared} (x : ErP g F X h₀ H₀ e s') {E : Value → Shared → Prop}
    (h : ∀ s'' c as m' H', St g F m' H' s'' → Keep F h₀ H₀ s''.heap H' → FlyT h₀ e c as s''.heap H' → X c as m' H' → E e s'') : notedBy (model g.prog g.w) F.A F.env E e s' := by
  obtain ⟨c, as, m', H', f, S, K, q⟩ := x
  exact note S K B0 f hL fun s'' S' K' f' => h s'' c as m' H' S' K' f' q
theorem cameBack {X : Value → List V → Loc → AH → Prop} {e c : Value} {as : List V} (B0 : g.B.StaysIn h₀) (S : St g F m H s) (K : Keep F h₀ H₀ s.heap H) (f : FlyT h₀ e c as s.heap H) (q : X c as m H) :
    cameBackBy (model g.prog g.w) F.A F.env (ErP g F X h₀ H₀) e s := by
  have f' := f
  obtain ⟨a, o, vs, v, T, oT, ts, x, rfl, h2, h3, h4, h5, h6, h7, h8, h9, t1, t2, t3, t4, t5, t6, t7, t8⟩ := f
  refine wpAny_bind (wpAny_field h4 h7 t1 ?_)
  rw [if_neg (show ¬ ((Value.ref T == Value.none) = true) from by simp)]
  exact flight S K B0 f' fun s' S' K' f'' => ⟨c, as, m, H, f''.fly, S', K', q⟩
theorem St.frameL (S : St g F m H s) (hs : F.stack ≠ []) : ∃ L, F.env.frame = some L := by
  have h1 := S.frame
  have h2 := S.frs
  cases q : F.stack with
  | nil => exact absurd q hs
  | cons e r =>
    rw [q] at h1 h2
    obtain ⟨_, ⟨L, o, hf, _⟩, _⟩ := h2
    exact ⟨L, h1.trans hf⟩
end
end Mine
end
section
open PySem PySem.W PySem.Calls PyProof.Rows
set_option linter.unusedSectionVars false
set_option linter.unusedVariables false
namespace Mine
variable [ζ : Dead]
noncomputable def BR (h : Heap) : List (Str × V) → List (Str × Value) → Prop
  | [], vs => vs = []
  | b :: bs, vs => ∃ v r, vs = (b.1, v) :: r ∧ VR h b.2 v ∧ BR h bs r
theorem BR.mono {h h' : Heap} (k : ∀ a o, Imm a o → h.get? a = some o → h'.get? a = some o) : ∀ (bs : List (Str × V)) (vs : List (Str × Value)), BR h bs vs → BR h' bs vs
  | [], _, e => e
  | _ :: bs, _, ⟨v, r, e, hv, hr⟩ => ⟨v, r, e, hv.mono k, BR.mono k bs r hr⟩
noncomputable def bindAbs : List (Str × V) → Loc → Loc
  | [], m => m
  | (n, a) :: r, m => bindAbs r (setL m n a)
noncomputable def Fl.val : Fl → V
  | .ret v => v
  | _ => .none
noncomputable def Binds (g : G) (fd : FuncData) (xs : List V) (bs : List (Str × V)) : Prop :=
  ∀ (A : Around) (s : Shared) (vs : List Value) (E : Value → Shared → Prop) (Q : List (Str × Value) → Shared → Prop), g.K.In s.heap → (∀ a ∈ ζ.bad, ∃ o, s.heap.get? a = some o) → VRs s.heap xs vs →
    (∀ binds h', (∀ b o, s.heap.get? b = some o → h'.get? b = some o) → BR h' bs binds → Q binds { s with heap := h' }) → wpAny (model g.prog g.w) A (bindArgs fd ⟨vs, []⟩) Q E s
structure FrameOf (F' F : Fm) (sc : Scope) : Prop where
  scope : F'.env.scope = sc
  handled : F'.A.handled = F.A.handled
  lvl : F'.lvl = F.lvl + 1
  cells : ∀ x, sc.names.lookup x = some .cell → ∃ c, F'.env.cells.lookup x = some c ∧ c ∈ F'.mine
  stack : F'.stack = F'.env :: F.stack
noncomputable def Fm.call (F : Fm) (fd : FuncData) (f L : Addr) : Fm where
  A := F.A.deeper (callEnvC fd L f)
  env := callEnvC fd L f
  stack := callEnvC fd L f :: F.stack
  mine := L :: (((cellsFrom (L + 1) fd.scope.names []).filter fun p => (cellsFrom (L + 1) fd.scope.names []).lookup p.1 == some p.2).map (·.2))
  lvl := F.lvl + 1
section
variable {g : G} {F : Fm} {m : Loc} {H : AH} {s : Shared}
theorem bind_loc {kindOf : Str → Option NameKind} {h : Heap} : ∀ {bs : List (Str × V)} {binds : List (Str × Value)} {m : Loc} {mr cm : Str → Option Value}, BR h bs binds → (∀ x ∈ bs, kindOf x.1 = some .local ∨ kindOf x.1 = some .cell) →
    (∀ x a, m x = some a → ∃ v, VR h a v ∧ ((kindOf x = some .local ∧ mr x = some v) ∨ (kindOf x = some .cell ∧ cm x = some v))) →
    ∀ x a, bindAbs bs m x = some a → ∃ v, VR h a v ∧ ((kindOf x = some .local ∧ bindL kindOf binds mr x = some v) ∨ (kindOf x = some .cell ∧ bindC kindOf binds cm x = some v))
  | [], _, m, mr, cm, e, _, hm => by cases e; exact hm
  | (n, b) :: bs, _, m, mr, cm, ⟨v, r, e, hv, hr⟩, hk, hm => by
    subst e
    unfold bindAbs bindL bindC
    refine bind_loc hr (fun x hx => hk x (List.mem_cons_of_mem _ hx)) fun x a hx => ?_
    unfold setL at hx
    rcases hk _ List.mem_cons_self with q | q
    · have q : kindOf n = some .local := q
      rw [if_pos q, if_pos q]
      by_cases z : x = n
      · subst z; rw [if_pos rfl] at hx; cases hx; exact ⟨v, hv, .inl ⟨q, if_pos rfl⟩⟩
      · rw [if_neg z] at hx
        obtain ⟨u, ru, w⟩ := hm x a hx
        exact ⟨u, ru, w.imp (fun qq1 => qq1.elim fun w1 w2 => ⟨w1, by rw [if_neg z]; exact w2⟩) id⟩
    · have q : kindOf n = some .cell := q
      have q' : ¬ kindOf n = some .local := by rw [q]; decide
      rw [if_neg q', if_neg q']
      by_cases z : x = n
      · subst z; rw [if_pos rfl] at hx; cases hx; exact ⟨v, hv, .inr ⟨q, if_pos rfl⟩⟩
      · rw [if_neg z] at hx
        obtain ⟨u, ru, w⟩ := hm x a hx
        exact ⟨u, ru, w.imp id fun qq1 => qq1.elim fun w1 w2 => ⟨w1, by rw [if_neg z]; exact w2⟩⟩
theorem St.lt (S : St g F m H s) {b : Addr} (n : s.heap.objs.size ≤ b) : H b = none ∧ g.B.get? b = none ∧ s.heap.get? b = none := by
  have e : s.heap.get? b = none := Heap.get?_none_of_le n
  refine ⟨S.untracked e, ?_, e⟩
  cases q : g.B.get? b with
  | none => rfl
  | some o => rw [S.base b o q] at e; cases e
theorem St.enter {fd : FuncData} {f : Addr} {bs : List (Str × V)} {binds : List (Str × Value)} {s' : Shared} (S : St g F m H s) (hl : F.lvl < 100) (hk : fd.scope.kind = .function) (hg : fd.globals = mainGlobals) (hb : fd.builtins = builtinsNs)
    (hbr : BR s.heap bs binds) (hkind : ∀ x ∈ bs, fd.scope.names.lookup x.1 = some .local ∨ fd.scope.names.lookup x.1 = some .cell)
    (x : InCallC s (callEnvC fd s.heap.objs.size f).locals (bindL (callEnvC fd s.heap.objs.size f).kindOf binds fun _ => none) (callEnvC fd s.heap.objs.size f).cells (bindC (callEnvC fd s.heap.objs.size f).kindOf binds fun _ => none) s') :
    St g (F.call fd f s.heap.objs.size) (bindAbs bs fun _ => none) H s' ∧ FrameOf (F.call fd f s.heap.objs.size) F fd.scope := by
  obtain ⟨⟨⟨h', tk, rfl⟩, hn, kp, _⟩, hc, hap, hab⟩ := x
  have mn : Mono s.heap h' := ⟨fun _ _ _ e => kp _ _ e, .ext kp⟩
  have big : ∀ n c, (callEnvC fd s.heap.objs.size f).cells.lookup n = some c → s.heap.objs.size ≤ c := fun n c e => Nat.le_of_lt (hab n c (mem_of_lookup e))
  have hLl : (callEnvC fd s.heap.objs.size f).locals = s.heap.objs.size := rfl
  obtain ⟨oL, esL, epL, eL, dL, _⟩ := id hn
  refine ⟨⟨fun b o e => kp b o (S.base b o e), fun b o e => ?_, ⟨hk, ⟨_, hn, fun y a ha => ?_⟩, fun y c hy => ⟨(S.lt (big y c hy)).1, _, hc y c hy⟩, fun y z c hy hz => name_of_addr hap (mem_of_lookup hy) (mem_of_lookup hz)⟩, List.mem_cons_self, fun b hb' => ?_, ?_, fun b hb' => ?_, rfl, ?_, S.gens, S.os, ?_, ⟨hg, hb⟩, S.deadK fun b o e => ⟨o, kp b o e⟩⟩,
    ⟨rfl, rfl, rfl, fun y hy => ?_, rfl⟩⟩
  · obtain ⟨b1, b2⟩ := S.obj b o e
    obtain ⟨r, e', _⟩ := b2.get
    exact ⟨b1, b2.mono mn ((kp b r e').trans e'.symm)⟩
  · obtain ⟨v, rv, w⟩ := bind_loc (kindOf := (callEnvC fd s.heap.objs.size f).kindOf) (mr := fun _ => none) (cm := fun _ => none) (BR.mono mn.tup _ _ hbr) hkind (fun _ _ q => by cases q) y a ha
    refine ⟨v, rv, ?_⟩
    rcases w with w | ⟨w1, w2⟩
    · exact .inl w
    · have : ((cellsFrom (s.heap.objs.size + 1) fd.scope.names []).lookup y).isSome = true := cellsFrom_some _ _ _ (.inl w1)
      obtain ⟨c, ec⟩ := Option.isSome_iff_exists.mp this
      exact .inr ⟨.inl w1, c, ec, w2 ▸ hc y c ec⟩
  · rcases List.mem_cons.mp hb' with rfl | hb'
    · obtain ⟨n1, n2, _⟩ := S.lt (Nat.le_refl s.heap.objs.size)
      exact ⟨n1, n2, oL, eL, .inl ⟨_, _, dL⟩⟩
    · obtain ⟨p, hp, rfl⟩ := List.mem_map.mp hb'
      have e := eq_of_beq (List.mem_filter.mp hp).2
      obtain ⟨n1, n2, _⟩ := S.lt (big p.1 p.2 e)
      obtain ⟨o, eo, d⟩ := hc p.1 p.2 e
      exact ⟨n1, n2, o, eo, .inr ⟨_, d⟩⟩
  · refine ⟨by show fd.scope.kind ≠ .module; rw [hk]; decide, ⟨_, oL, rfl, (S.lt (Nat.le_refl s.heap.objs.size)).2.1, eL, fun vs q => by rw [dL] at q; cases q⟩, ?_⟩
    exact funFrames_mono S.frs fun b hb' o e => ⟨o, kp b o e, id⟩
  · have hb'' : b = s.heap.objs.size ∨ b ∈ F.fr := by
      have : b ∈ s.heap.objs.size :: F.fr := hb'
      exact List.mem_cons.mp this
    rcases hb'' with rfl | hb'
    · exact ⟨(S.lt (Nat.le_refl s.heap.objs.size)).1, oL, esL, epL, eL, dL⟩
    · obtain ⟨h1, o, es, ep, h3, h4⟩ := S.frd b hb'
      exact ⟨h1, o, es, ep, kp b o h3, h4⟩
  · exact Around.frames_deeper S.Afr
  · obtain ⟨r1, r2, r3, r4⟩ := S.room
    refine ⟨?_, ?_, hl, r4⟩
    · show F.A.depth + 1 ≤ 310 + 3 * (F.lvl + 1); exact o66 r1
    · show F.A.units + 3 ≤ 100 + 20 * (F.lvl + 1); exact o67 r2
  · have : ((cellsFrom (s.heap.objs.size + 1) fd.scope.names []).lookup y).isSome = true := cellsFrom_some _ _ _ (.inl hy)
    obtain ⟨c, ec⟩ := Option.isSome_iff_exists.mp this
    exact ⟨c, ec, List.mem_cons_of_mem _ (List.mem_map.mpr ⟨(y, c), List.mem_filter.mpr ⟨mem_of_lookup ec, by rw [ec]; simp⟩, rfl⟩)⟩
theorem St.back {fd : FuncData} {f : Addr} {m' : Loc} {H' : AH} {s₁ s' : Shared} (S : St g F m H s) (kp : ∀ b o, s.heap.get? b = some o → s₁.heap.get? b = some o)
    (hab : ∀ b ∈ (F.call fd f s.heap.objs.size).mine, s.heap.objs.size ≤ b) (S' : St g (F.call fd f s.heap.objs.size) m' H' s') (K' : Keep (F.call fd f s.heap.objs.size) s₁.heap H s'.heap H') :
    St g F m H' s' ∧ Keep F s.heap H s'.heap H' := by
  have lt : ∀ b o, s.heap.get? b = some o → b ∉ (F.call fd f s.heap.objs.size).mine := fun b o e q => Nat.lt_irrefl _ (Nat.lt_of_lt_of_le (Heap.lt_size e) (hab b q))
  have fr : ∀ b o, s.heap.get? b = some o → b ∈ (F.call fd f s.heap.objs.size).fr → b ∈ F.fr := fun b o e q => by
    have q : b ∈ s.heap.objs.size :: F.fr := q
    rcases List.mem_cons.mp q with rfl | q
    · exact absurd (Heap.lt_size e) (Nat.lt_irrefl _)
    · exact q
  have same : ∀ b o, s.heap.get? b = some o → H b = none → H' b = none ∧ (s'.heap.get? b = some o ∨ (b ∈ F.fr ∧ ∃ sl, s'.heap.get? b = some { o with slots := sl })) := fun b o e n => by
    obtain ⟨n', z⟩ := K'.same b o (kp b o e) n (lt b o e)
    exact ⟨n', z.imp id fun qq1 => qq1.elim fun w1 w2 => ⟨fr b o e w1, w2⟩⟩
  have K : Keep F s.heap H s'.heap H' := ⟨fun b o e => K'.alive b o (kp b o e), (Dct.ext kp).trans K'.dct, fun b o e n _ => same b o e n⟩
  refine ⟨⟨S'.base, S'.obj, ?_, S.locm, fun b hb => ?_, S'.frs.2.2, fun b hb => S'.frd b (List.mem_cons_of_mem _ hb), S.frame, S.Afr, S'.gens, S'.os, S.room, S.envg, S'.dead⟩, K⟩
  · refine S.loc.mono (K.mono S) (fun y c hy => ?_) fun b hb o e => (same b o e (S.locIs b hb).1).2.imp id fun z => z.2
    obtain ⟨n, o, e, _⟩ := S.locIs c (.inr ⟨y, hy⟩)
    exact (same c o e n).1
  · obtain ⟨n1, n2, o, e, w⟩ := S.mine b hb
    obtain ⟨n', z⟩ := same b o e n1
    rcases z with z | ⟨_, sl, z⟩
    · exact ⟨n', n2, o, z, w⟩
    · exact ⟨n', n2, _, z, w⟩
end
section
variable {g : G} {F : Fm} {m : Loc} {H : AH} {Q : V → Loc → AH → Prop} {X : Value → List V → Loc → AH → Prop}
theorem c_code {f : Addr} {fd : FuncData} {oc : Value} {od : Option Addr} {osl : Array (Option Value)} {body : List Stmt} {xs : List V} {bs : List (Str × V)}
    (ho : g.K.lookup f = some ⟨oc, od, .func fd, osl⟩) (hcd : codeIn g.K fd.code fd.qualname = true) (hbody : fd.body = .stmts body) (hg : fd.globals = mainGlobals) (hb : fd.builtins = builtinsNs) (hcl : fd.closure = [])
    (hco : fd.scope.isCoroutine = false) (hgen : fd.scope.isGenerator = false) (hk : fd.scope.kind = .function) (hl : F.lvl < 100) (hbind : Binds g fd xs bs)
    (hkind : (bs.all fun x => fd.scope.names.lookup x.1 == some .local || fd.scope.names.lookup x.1 == some .cell) = true)
    (h : ∀ F', FrameOf F' F fd.scope → WS g F' (execs body F'.env) (bindAbs bs fun _ => none) H (kVal Q Fl.val m) (kErr X m)) {s : Shared} {vs : List Value} (S : St g F m H s) (hv : VRs s.heap xs vs) :
    codeAny (model g.prog g.w) F.A (.call (.ref f) ⟨vs, []⟩) (fun r s' => match r with | .ok (.ret v) => OkP g F VR Q s.heap H v s' | .ok _ => False | .error e => ErP g F X s.heap H e s') s := by
  have hkind' : ∀ x ∈ bs, fd.scope.names.lookup x.1 = some .local ∨ fd.scope.names.lookup x.1 = some .cell := fun x hx => by
    have := List.all_eq_true.mp hkind x hx
    simpa using this
  have X0 := g.kin.keeps S.base
  refine codeAny_call_function (by rw [show recursionLimit = 1000 from rfl]; have := S.room; exact o68 this) (X0 _ _ ho) rfl hco hgen hbody (codeRec_of X0 hcd) ?_
  refine hbind _ s vs _ _ X0 S.dead hv fun binds h' kp' br => ?_
  obtain ⟨S₁, K₁⟩ := S.ext (t := s.toks) kp'
  have names : ∀ x ∈ binds, ∃ y ∈ bs, y.1 = x.1 := by
    clear S₁ K₁ h hkind hkind' hbind
    induction bs generalizing binds with
    | nil => cases br; intro x hx; cases hx
    | cons b bs ih =>
      obtain ⟨v, r, rfl, _, hr⟩ := br
      intro x hx
      rcases List.mem_cons.mp hx with rfl | hx
      · exact ⟨b, List.mem_cons_self, rfl⟩
      · obtain ⟨y, hy, e⟩ := ih r hr x hx; exact ⟨y, List.mem_cons_of_mem _ hy, e⟩
  rw [hcl]
  refine wpAny_newFunctionEnv_cells hk (fun x hx => ?_) fun env he s₂ x => ?_
  · obtain ⟨y, hy, e⟩ := names x hx
    rw [← e]
    exact (hkind' y hy).imp id fun q => ⟨q, cellsFrom_some _ _ _ (.inl q)⟩
  · subst he
    have x' : InCallC { s with heap := h' } (callEnvC fd h'.objs.size f).locals (bindL (callEnvC fd h'.objs.size f).kindOf binds fun _ => none) (callEnvC fd h'.objs.size f).cells (bindC (callEnvC fd h'.objs.size f).kindOf binds fun _ => none) s₂ := x
    have kp₂ : ∀ b o, h'.get? b = some o → s₂.heap.get? b = some o := x'.toInCall.keep
    refine ⟨(g.nolim.keeps S₁.base).keeps kp₂, codeAny_func ?_⟩
    obtain ⟨S₂, hF⟩ := S₁.enter hl hk hg hb br hkind' x'
    have hab : ∀ b ∈ (F.call fd f h'.objs.size).mine, h'.objs.size ≤ b := fun b hb' => by
      rcases List.mem_cons.mp hb' with rfl | hb'
      · exact Nat.le_refl _
      · obtain ⟨p, hp, rfl⟩ := List.mem_map.mp hb'
        exact Nat.le_of_lt (x'.above p.1 p.2 (mem_of_lookup (eq_of_beq (List.mem_filter.mp hp).2)))
    refine wpAny_mono (h _ hF s₂ S₂) (fun fl s₃ yy => yy.elim fun fl' m₃ H₃ r₃ S₃ K₃ q₃ => ?_) fun e s₃ yy => yy.elim fun c as m₃ H₃ f₃ S₃ K₃ q₃ => ?_
    · obtain ⟨S₄, K₄⟩ := S₁.back kp₂ hab S₃ K₃
      refine ⟨fl'.val, m, H₃, ?_, S₄, K₁.trans K₄, q₃⟩
      cases fl' with
      | ret a => obtain ⟨v, rfl, rv⟩ := r₃; exact rv
      | next => cases r₃; exact .none'
      | brk => cases r₃; exact .none'
      | cont => cases r₃; exact .none'
    · show wpAny (model g.prog g.w) (F.call fd f h'.objs.size).A (leaving (F.call fd f h'.objs.size).env e) _ _ s₃
      have B0 : g.B.StaysIn s₂.heap := S₂.base
      refine wpAny_bind (note S₃ K₃ B0 f₃ ⟨_, rfl⟩ fun s₄ S₄ K₄ f₄ => flight S₄ K₄ B0 f₄ fun s₅ S₅ K₅ f₅ => ?_)
      obtain ⟨S₆, K₆⟩ := S₁.back kp₂ hab S₅ K₅
      exact ⟨c, as, m, H₃, f₅.fly.since (fun b o e => ⟨o, kp₂ b o (kp' b o e)⟩), S₆, K₁.trans K₆, q₃⟩
theorem len1 {α : Type} {vs : List α} (h : vs.length = 1) : ∃ v, vs = [v] := List.length_eq_one_iff.mp h
theorem len2 {α : Type} {vs : List α} (h : vs.length = 2) : ∃ v u, vs = [v, u] := by
  cases vs with
  | nil => cases h
  | cons v vs => exact (len1 (Nat.succ.inj h)).elim fun u e => ⟨v, u, by rw [e]⟩
theorem len3 {α : Type} {vs : List α} (h : vs.length = 3) : ∃ v u w, vs = [v, u, w] := by
  cases vs with
  | nil => cases h
  | cons v vs => exact (len2 (Nat.succ.inj h)).elim fun u e => e.elim fun w e => ⟨v, u, w, by rw [e]⟩
theorem binds_peek {fd : FuncData} {xs : List V} {bs : List (Str × V)} (r : List Value → List (Str × Value)) (e : ∀ vs S, vs.length = xs.length → peek g.K S (bindArgs fd ⟨vs, []⟩) = some (r vs)) (hr : ∀ h vs, VRs h xs vs → BR h bs (r vs)) : Binds g fd xs bs :=
  fun A s vs E Q X _ hv hq => (Looks.of_peek (M := model g.prog g.w) X (e vs _ hv.length)).here (hq (r vs) s.heap (fun _ _ z => z) (hr _ _ hv))
end
end Mine
end
section
open PySem PySem.W PySem.Calls PyProof.Rows
set_option linter.unusedSectionVars false
set_option linter.unusedVariables false
namespace Mine
variable [ζ : Dead]
section
variable {g : G} {F : Fm} {m : Loc} {H : AH} {s : Shared} {h₀ : Heap} {H₀ : AH}
structure Odd (b : Addr) (o : Obj) : Prop where
  nd : ∀ es ep, o.data ≠ .dict es ep
  nc : ∀ v, o.data ≠ .cell v
  ni : ¬ Imm b o
theorem St.uns {ws : List Addr} {h' : Heap} {t : Nat} (S : St g F m H s) (ob : ∀ b ∈ ws, ∃ o, s.heap.get? b = some o ∧ Odd b o) (hH : ∀ b ∈ ws, H b = none) (hB : ∀ b ∈ ws, g.B.get? b = none)
    (C : ∀ c o', s.heap.get? c = some o' → c ∉ ws → h'.get? c = some o') (al : ∀ b ∈ ws, okA b ∨ ∃ o, h'.get? b = some o) :
    St g F m H { s with heap := h', toks := t } ∧ (Keep F h₀ H₀ s.heap H → (∀ b ∈ ws, h₀.get? b = none) → Keep F h₀ H₀ h' H) := by
  have nown : ∀ b o, s.heap.get? b = some o → Own o → b ∉ ws := fun b o e w q => by
    obtain ⟨o', e', d⟩ := ob b q
    rw [e] at e'; cases e'
    rcases w with ⟨_, _, w⟩ | ⟨_, w⟩
    · exact d.nd _ _ w
    · exact d.nc _ w
  have ndct : ∀ b o es ep, s.heap.get? b = some o → o.data = .dict es ep → b ∉ ws := fun b o es ep e d => nown b o e (.inl ⟨_, _, d⟩)
  have dc : Dct s.heap h' := fun c o' es ep e' d => ⟨o', es, ep, C c o' e' (ndct c o' es ep e' d), d⟩
  have mn : Mono s.heap h' := ⟨fun a o' i e' => C a o' e' (fun q => by obtain ⟨o, e, d⟩ := ob a q; rw [e] at e'; cases e'; exact d.ni i), dc⟩
  refine ⟨⟨fun c o' e' => C c o' (S.base c o' e') (fun q => by rw [hB c q] at e'; cases e'), fun c o' e' => ?_, ?_, S.locm, fun c hc' => ?_, ?_, fun c hc' => ?_, S.frame, S.Afr, S.gens, S.os, S.room, S.envg, fun a ha => ?_⟩, fun K n0 => ⟨fun c o' e' => (K.alive c o' e').elim fun o'' e'' => ⟨o'', C c o'' e'' (fun q => by rw [n0 c q] at e'; cases e')⟩, K.dct.trans dc, fun c o' e' n hc' => ?_⟩⟩
  · obtain ⟨b1, b2⟩ := S.obj c o' e'
    obtain ⟨r, e'', _⟩ := b2.get
    exact ⟨b1, b2.mono mn ((C c r e'' fun q => by rw [hH c q] at e'; cases e').trans e''.symm)⟩
  · refine S.loc.mono mn (fun y c hy => (S.locIs c (.inr ⟨y, hy⟩)).1) fun c hc' o' e' => .inl (C c o' e' ?_)
    obtain ⟨_, o'', e'', w⟩ := S.locIs c hc'
    exact nown c o'' e'' w
  · obtain ⟨h1, h2, o', h3, h4⟩ := S.mine c hc'
    exact ⟨h1, h2, o', C c _ h3 (nown c o' h3 h4), h4⟩
  · refine funFrames_mono S.frs fun c hc' o' e' => ⟨_, C c o' e' ?_, id⟩
    obtain ⟨_, o'', es, ep, e'', d⟩ := S.frd c hc'
    exact ndct c o'' es ep e'' d
  · obtain ⟨h1, o', es, ep, h3, h4⟩ := S.frd c hc'
    exact ⟨h1, o', es, ep, C c _ h3 (ndct c o' es ep h3 h4), h4⟩
  · by_cases q : a ∈ ws
    · rcases al a q with z | z
      · exact absurd ha z
      · exact z
    · obtain ⟨o, e⟩ := S.dead a ha
      exact ⟨o, C a o e q⟩
  · obtain ⟨n', z⟩ := K.same c o' e' n hc'
    have cb : c ∉ ws := fun q => by rw [n0 c q] at e'; cases e'
    refine ⟨n', ?_⟩
    rcases z with z | ⟨w, sl, z⟩
    · exact .inl (C c _ z cb)
    · exact .inr ⟨w, sl, C c _ z cb⟩
theorem St.un {b : Addr} {o : Obj} {h' : Heap} {t : Nat} (S : St g F m H s) (e : s.heap.get? b = some o) (hd : (∀ es ep, o.data ≠ .dict es ep) ∧ ∀ v, o.data ≠ .cell v) (hH : H b = none) (hB : g.B.get? b = none) (hi : immC o.cls = false) (C : ∀ c o', s.heap.get? c = some o' → c ≠ b → h'.get? c = some o') (al : okA b ∨ ∃ o, h'.get? b = some o) :
    St g F m H { s with heap := h', toks := t } ∧ (Keep F h₀ H₀ s.heap H → h₀.get? b = none → Keep F h₀ H₀ h' H) := by
  obtain ⟨a1, a2⟩ := S.uns (ws := [b]) (h₀ := h₀) (H₀ := H₀) (h' := h') (t := t) (fun c hc => by rw [List.mem_singleton] at hc; subst hc; exact ⟨o, e, hd.1, hd.2, fun i => by rw [i.cls] at hi; cases hi⟩) (fun c hc => by rw [List.mem_singleton] at hc; subst hc; exact hH) (fun c hc => by rw [List.mem_singleton] at hc; subst hc; exact hB)
    (fun c o' e' q => C c o' e' fun z => q (by rw [z]; exact List.mem_singleton_self _)) (fun c hc => by rw [List.mem_singleton] at hc; subst hc; exact al)
  exact ⟨a1, fun K n0 => a2 K fun c hc => by rw [List.mem_singleton] at hc; subst hc; exact n0⟩
theorem St.off {b : Addr} {h' : Heap} {t : Nat} (S : St g F m H s) (C : ∀ c o', s.heap.get? c = some o' → c ≠ b → h'.get? c = some o') (hH : H b = none) (hB : g.B.get? b = none) (hm : b ∉ F.mine) (hf : b ∉ F.fr)
    (hc : ∀ y, F.env.cells.lookup y ≠ some b) (hi : ∀ o, s.heap.get? b = some o → ¬ Imm b o) (hd : ∀ o es ep, s.heap.get? b = some o → o.data = .dict es ep → ∃ o' es' ep', h'.get? b = some o' ∧ o'.data = .dict es' ep') (ha : ∃ o, h'.get? b = some o) :
    St g F m H { s with heap := h', toks := t } ∧ (Keep F h₀ H₀ s.heap H → h₀.get? b = none → Keep F h₀ H₀ h' H) := by
  have dc : Dct s.heap h' := fun c o' es ep e' d => by
    by_cases q : c = b
    · subst q; exact hd o' es ep e' d
    · exact ⟨o', es, ep, C c o' e' q, d⟩
  have mn : Mono s.heap h' := ⟨fun a o' i e' => C a o' e' (fun q => by subst q; exact hi o' e' i), dc⟩
  refine ⟨⟨fun c o' e' => C c o' (S.base c o' e') (fun q => by subst q; rw [hB] at e'; cases e'), fun c o' e' => ?_, ?_, S.locm, fun c hc' => ?_, ?_, fun c hc' => ?_, S.frame, S.Afr, S.gens, S.os, S.room, S.envg, fun a z => ?_⟩, fun K n0 => ⟨fun c o' e' => (K.alive c o' e').elim fun o'' e'' => ⟨o'', C c o'' e'' (fun q => by subst q; rw [n0] at e'; cases e')⟩, K.dct.trans dc, fun c o' e' n hc' => ?_⟩⟩
  · obtain ⟨b1, b2⟩ := S.obj c o' e'
    obtain ⟨r, e'', _⟩ := b2.get
    exact ⟨b1, b2.mono mn ((C c r e'' fun q => by subst q; rw [hH] at e'; cases e').trans e''.symm)⟩
  · refine S.loc.mono mn (fun y c hy => (S.locIs c (.inr ⟨y, hy⟩)).1) fun c hc' o' e' => .inl (C c o' e' ?_)
    rcases hc' with rfl | ⟨y, hy⟩
    · exact fun q => hm (q ▸ S.locm)
    · exact fun q => hc y (q ▸ hy)
  · obtain ⟨h1, h2, o', h3, h4⟩ := S.mine c hc'
    exact ⟨h1, h2, o', C c _ h3 (fun q => hm (q ▸ hc')), h4⟩
  · refine funFrames_mono S.frs fun c hc' o' e' => ⟨_, C c o' e' (fun q => hf (q ▸ hc')), id⟩
  · obtain ⟨h1, o', es, ep, h3, h4⟩ := S.frd c hc'
    exact ⟨h1, o', es, ep, C c _ h3 (fun q => hf (q ▸ hc')), h4⟩
  · by_cases q : a = b
    · subst q; exact ha
    · obtain ⟨o, e⟩ := S.dead a z
      exact ⟨o, C a o e q⟩
  · obtain ⟨n', z⟩ := K.same c o' e' n hc'
    have cb : c ≠ b := fun q => by subst q; rw [n0] at e'; cases e'
    refine ⟨n', ?_⟩
    rcases z with z | ⟨w, sl, z⟩
    · exact .inl (C c _ z cb)
    · exact .inr ⟨w, sl, C c _ z cb⟩
theorem notOwn {o : Obj} {vs : Array Value} (hd : o.data = .fields vs) : (∀ es ep, o.data ≠ .dict es ep) ∧ ∀ v, o.data ≠ .cell v := ⟨fun _ _ q => (by rw [hd] at q; cases q), fun _ q => (by rw [hd] at q; cases q)⟩
noncomputable def ownsCls : List String := ["enumerate", "zip", "dict_itemiterator", "dict_reverseitemiterator", "odict_iterator", "itertools.zip_longest", "itertools.pairwise"]
noncomputable def anyT : Expr → Bool := fun _ => true
noncomputable def tupT : Expr → Bool
  | .Tuple .. => true
  | _ => false
structure Iter (g : G) (F : Fm) (it : Addr) (ws : List Addr) (P : Nat → Heap → Prop) (C : AH → Prop) (n : Nat) (val : Nat → V) (tg : Expr → Bool) : Prop where
  obj : ∀ i h, P i h → ∀ b ∈ ws, ∃ o, h.get? b = some o ∧ Odd b o
  stay : ∀ i h h', P i h → (∀ b ∈ ws, h'.get? b = h.get? b) → Mono h h' → P i h'
  item : ∀ i m H s (Q : Option Value → Shared → Prop) (E : Value → Shared → Prop), i < n → St g F m H s → P i s.heap → C H →
    (∀ h' tk v, (∀ target, tg target = true → ∀ (Q' : Unit → Shared → Prop) (E' : Value → Shared → Prop), (∀ h'', VR h'' (val i) v → P (i + 1) h'' → (∀ c o', s.heap.get? c = some o' → c ∉ ws → h''.get? c = some o') → Q' () { s with heap := h'', toks := tk }) →
      wpAny (model g.prog g.w) F.A (letOwnedTupleGo target (.ref it) v) Q' E' { s with heap := h', toks := tk }) → Q (some v) { s with heap := h', toks := tk }) →
    wpAny (model g.prog g.w) F.A (pyNext (.ref it)) Q E s
  self : ∀ i s (Q : Value → Shared → Prop) (E : Value → Shared → Prop), P i s.heap → Q (.ref it) s → wpAny (model g.prog g.w) F.A (pyIter (.ref it)) Q E s
  stop : ∀ m H s (Q : Option Value → Shared → Prop) (E : Value → Shared → Prop), St g F m H s → P n s.heap → C H → (∀ h' tk, (∀ c o', s.heap.get? c = some o' → c ∉ ws → h'.get? c = some o') → (∀ b ∈ ws, okA b ∨ ∃ o, h'.get? b = some o) → Q none { s with heap := h', toks := tk }) → wpAny (model g.prog g.w) F.A (pyNext (.ref it)) Q E s
theorem noOwned {it : Addr} {target : Expr} {v : Value} {o : Obj} {vs : Array Value} {t : String} {A : Around} {Q : Unit → Shared → Prop} {E : Value → Shared → Prop} (e : s.heap.get? it = some o) (hd : o.data = .fields vs) (hc : o.cls = .type t) (hn : ownsCls.contains t = false) (h : Q () s) :
    wpAny (model g.prog g.w) A (letOwnedTupleGo target (.ref it) v) Q E s := by
  have main : wpAny (model g.prog g.w) A (do
      let (.ref r, .ref a) := (Value.ref it, v) | return
      let o ← load r
      match o.cls, o.data with
      | .type n, .fields vs =>
        if ["enumerate", "zip", "dict_itemiterator", "dict_reverseitemiterator", "odict_iterator", "itertools.zip_longest", "itertools.pairwise"].contains n && vs[0]? == some (rawInt a) then
          rule "for.unpacks-the-owned-tuple"
          updateField r 0 .none
      | _, _ => pure ()) Q E s := by
    cases v <;> try exact wpAny_pure h
    refine wpAny_bind (wpAny_load e ?_)
    rw [hc, hd]
    show wpAny _ _ (if (ownsCls.contains t && _) = true then _ else _) _ _ _
    rw [hn, Bool.false_and, if_neg (by decide)]
    exact wpAny_pure h
  unfold letOwnedTupleGo
  split
  · exact main
  · exact main
  · exact wpAny_pure h
theorem Iter.plain {it : Addr} {P : Nat → Heap → Prop} {C : AH → Prop} {n : Nat} {val : Nat → V} (hk : okA it)
    (obj : ∀ i h, P i h → ∃ o vs t, h.get? it = some o ∧ o.data = .fields vs ∧ o.cls = .type t ∧ immC (.type t) = false ∧ ownsCls.contains t = false)
    (stay : ∀ i h h', P i h → h'.get? it = h.get? it → Mono h h' → P i h')
    (item : ∀ i m H s (Q : Option Value → Shared → Prop) (E : Value → Shared → Prop), i < n → St g F m H s → P i s.heap → C H → (∀ h' tk v, VR h' (val i) v → P (i + 1) h' → (∀ c o', s.heap.get? c = some o' → c ≠ it → h'.get? c = some o') → Q (some v) { s with heap := h', toks := tk }) →
      wpAny (model g.prog g.w) F.A (pyNext (.ref it)) Q E s)
    (self : ∀ i s (Q : Value → Shared → Prop) (E : Value → Shared → Prop), P i s.heap → Q (.ref it) s → wpAny (model g.prog g.w) F.A (pyIter (.ref it)) Q E s)
    (stop : ∀ m H s (Q : Option Value → Shared → Prop) (E : Value → Shared → Prop), St g F m H s → P n s.heap → C H → (∀ h' tk, (∀ c o', s.heap.get? c = some o' → c ≠ it → h'.get? c = some o') → Q none { s with heap := h', toks := tk }) → wpAny (model g.prog g.w) F.A (pyNext (.ref it)) Q E s) :
    Iter g F it [it] P C n val anyT := by
  have off : ∀ {c : Addr}, c ≠ it → c ∉ [it] := fun q z => q (List.mem_singleton.mp z)
  refine ⟨fun i h p b hb => ?_, fun i h h' p q k => stay i h h' p (q it (List.mem_singleton_self _)) k, fun i m H s Q E hi S p c hq => item i m H s Q E hi S p c fun h' tk v rv p' C' => hq h' tk v fun target _ Q' E' k => ?_, self, fun m H s Q E S p c hq => stop m H s Q E S p c fun h' tk C' => hq h' tk (fun c o' e q => C' c o' e fun z => q (by rw [z]; exact List.mem_singleton_self _)) fun b hb => ?_⟩
  · rw [List.mem_singleton] at hb; subst hb
    obtain ⟨o, vs, t, e1, e2, e3, e4, _⟩ := obj i h p
    exact ⟨o, e1, (notOwn e2).1, (notOwn e2).2, fun z => by have := z.cls; rw [e3, e4] at this; cases this⟩
  · obtain ⟨o, vs, t, e1, e2, e3, e4, e5⟩ := obj (i + 1) h' p'
    exact noOwned (s := { s with heap := h', toks := tk }) e1 e2 e3 e5 (k h' rv p' fun c o' e q => C' c o' e fun z => q (by rw [z]; exact List.mem_singleton_self _))
  · rw [List.mem_singleton] at hb; subst hb; exact .inl hk
theorem iter_keep {it : Addr} {ws : List Addr} {P : Nat → Heap → Prop} {C : AH → Prop} {n : Nat} {val : Nat → V} {tg : Expr → Bool} {i : Nat} {H' : AH} {s' : Shared} (I : Iter g F it ws P C n val tg) (S : St g F m H s) (p : P i s.heap) (K : Keep F s.heap H s'.heap H')
    (hH : ∀ b ∈ ws, H b = none) (nm : ∀ b ∈ ws, b ∉ F.mine) : P i s'.heap ∧ ∀ b ∈ ws, H' b = none := by
  have st : ∀ b ∈ ws, s'.heap.get? b = s.heap.get? b ∧ H' b = none := fun b hb => by
    obtain ⟨o, e, d⟩ := I.obj i _ p b hb
    obtain ⟨z1, z2⟩ := K.same b o e (hH b hb) (nm b hb)
    rcases z2 with z2 | ⟨z2, _⟩
    · exact ⟨z2.trans e.symm, z1⟩
    · obtain ⟨_, o', es, ep, e', d'⟩ := S.frd b z2
      rw [e] at e'; cases e'; exact absurd d' (d.nd _ _)
  exact ⟨I.stay _ _ _ p (fun b hb => (st b hb).1) (K.mono S), fun b hb => (st b hb).2⟩
structure ForI (g : G) (F : Fm) (ws : List Addr) (P : Nat → Heap → Prop) (J : Nat → Loc → AH → Prop) (h₀ : Heap) (H₀ : AH) (n k : Nat) (s' : Shared) (i : Nat) (m' : Loc) (H' : AH) : Prop where
  e : k = n + 1 - i
  hi : i ≤ n
  S : St g F m' H' s'
  K : Keep F h₀ H₀ s'.heap H'
  p : P i s'.heap
  nH : ∀ b ∈ ws, H' b = none
  j : J i m' H'
theorem less {n i : Nat} (h : i < n) : n + 1 - (i + 1) < n + 1 - i := by exact o69 h
theorem for_core {it : Addr} {ws : List Addr} {P : Nat → Heap → Prop} {C : AH → Prop} {n : Nat} {val : Nat → V} {tg : Expr → Bool} {target : Expr} {body orelse : List Stmt} {J : Nat → Loc → AH → Prop} {Q : Fl → Loc → AH → Prop} {X : Value → List V → Loc → AH → Prop} (I : Iter g F it ws P C n val tg) (ht : tg target = true)
    (hs : F.stack ≠ []) (hJ : ∀ i m H, J i m H → C H)
    (turn : ∀ i m H, i < n → J i m H → WA g F target (val i) m H (fun m H => WS g F (execs body F.env) m H (fun f m H => match f with | .next => J (i + 1) m H | .cont => J (i + 1) m H | .brk => Q .next m H | .ret v => Q (.ret v) m H) X) X)
    (fin : ∀ m H, J n m H → WS g F (execs orelse F.env) m H Q X)
    (S : St g F m H s) (K : Keep F h₀ H₀ s.heap H) (B0 : g.B.StaysIn h₀) (p : P 0 s.heap) (n0 : ∀ b ∈ ws, h₀.get? b = none) (nH : ∀ b ∈ ws, H b = none) (nm : ∀ b ∈ ws, b ∉ F.mine) (j : J 0 m H) :
    codeAny (model g.prog g.w) F.A (.forLoop target (.ref it) body orelse F.env) (fun r s' => match r with | .ok f => OkP g F FR Q h₀ H₀ f s' | .error e => cameBackBy (model g.prog g.w) F.A F.env (ErP g F X h₀ H₀) e s') s := by
  have nB : ∀ b ∈ ws, g.B.get? b = none := fun b hb => by
    cases q : g.B.get? b with
    | none => rfl
    | some o => have := n0 b hb; rw [B0 b o q] at this; cases this
  have err : ∀ e s', ErP g F X h₀ H₀ e s' → notedBy (model g.prog g.w) F.A F.env (fun e s' => (match (Except.error e : Result) with | .ok f => OkP g F FR Q h₀ H₀ f s' | .error e => cameBackBy (model g.prog g.w) F.A F.env (ErP g F X h₀ H₀) e s')) e s' := fun e s' x => by
    obtain ⟨_, _, _, _, _, S', _⟩ := id x
    exact noted B0 (S'.frameL hs) x fun s'' c as m' H' S'' K'' f'' q => cameBack B0 S'' K'' f'' q
  refine codeAny_loop' rfl (fun k s' => ∃ i m' H', ForI g F ws P J h₀ H₀ n k s' i m' H') ?_ (n + 1) ⟨0, m, H, rfl, Nat.zero_le _, S, K, p, nH, j⟩
  rintro k s' ⟨i, m', H', rfl, hi, S', K', p', nH', j'⟩
  show wpAny _ _ ((forTurn target (.ref it) body orelse F.env).onRaise (fun x => do noteFrame x F.env; theTreesLotGoes x)) _ _ s'
  refine wpAny_noted ?_
  refine wpAny_bind (wpAny_standAt (wpAny_bind (wpAny_onRaise ?_)))
  by_cases hlt : i < n
  · refine I.item i m' H' s' _ _ hlt S' p' (hJ _ _ _ j') fun h₁ tk v go => ?_
    refine wpAny_bind (go target ht _ _ fun h₂ rv p₁ C₁ => ?_)
    obtain ⟨S₁, K₁⟩ := S'.uns (t := tk) (h₀ := h₀) (H₀ := H₀) (I.obj i _ p') nH' nB C₁ (fun b hb => .inr ((I.obj (i + 1) h₂ p₁ b hb).elim fun o qq1 => qq1.elim fun e _ => ⟨o, e⟩))
    have K₁ := K₁ K' n0
    refine wpAny_bind (wpAny_mono (turn i m' H' hlt j' _ v S₁ rv) (fun _ s₂ yy => yy.elim fun _ m₂ H₂ _ S₂ K₂ q₂ => ?_) fun e s₂ x => err e s₂ (x.after K₁))
    have K₂' := K₁.trans K₂
    refine wpAny_bind (wpAny_mono (q₂ s₂ S₂) (fun f s₃ yy => yy.elim fun f' m₃ H₃ r₃ S₃ K₃ q₃ => ?_) fun e s₃ x => err e s₃ (x.after K₂'))
    obtain ⟨p₂, nH₂⟩ := iter_keep I S₁ p₁ K₂ nH' nm
    obtain ⟨p₃, nH₃⟩ := iter_keep I S₂ p₂ K₃ nH₂ nm
    have K₃' := K₂'.trans K₃
    cases f' with
    | next => cases r₃; exact wpAny_pure (.inl ⟨rfl, n + 1 - (i + 1), less hlt, i + 1, m₃, H₃, rfl, hlt, S₃, K₃', p₃, nH₃, q₃⟩)
    | cont => cases r₃; exact wpAny_pure (.inl ⟨rfl, n + 1 - (i + 1), less hlt, i + 1, m₃, H₃, rfl, hlt, S₃, K₃', p₃, nH₃, q₃⟩)
    | brk => cases r₃; exact wpAny_pure ⟨.next, m₃, H₃, rfl, S₃, K₃', q₃⟩
    | ret x => obtain ⟨v, rfl, rv⟩ := r₃; exact wpAny_pure ⟨.ret x, m₃, H₃, ⟨v, rfl, rv⟩, S₃, K₃', q₃⟩
  · have hin : i = n := Nat.le_antisymm hi (Nat.le_of_not_lt hlt)
    subst hin
    refine I.stop m' H' s' _ _ S' p' (hJ _ _ _ j') fun h₁ tk C₁ al => ?_
    obtain ⟨S₁, K₁⟩ := S'.uns (t := tk) (h₀ := h₀) (H₀ := H₀) (I.obj i _ p') nH' nB C₁ al
    have K₁ := K₁ K' n0
    refine wpAny_pure (.inr ⟨rfl, codeAny_block ?_⟩)
    exact wpAny_mono (fin m' H' j' _ S₁) (fun _ _ x => x.after K₁) fun e s₂ x => err e s₂ (x.after K₁)
end
end Mine
end
section
open PySem PySem.W PySem.Calls PyProof.Rows
set_option linter.unusedSectionVars false
set_option linter.unusedVariables false
namespace Mine
variable [ζ : Dead]
section
variable {g : G} {F : Fm} {m : Loc} {H : AH} {X : Value → List V → Loc → AH → Prop} {Q : Fl → Loc → AH → Prop}
noncomputable def ForW (g : G) (F : Fm) (target : Expr) (a : V) (body orelse : List Stmt) (m : Loc) (H : AH) (Q : Fl → Loc → AH → Prop) (X : Value → List V → Loc → AH → Prop) : Prop :=
  ∀ h₀ H₀ s v, St g F m H s → Keep F h₀ H₀ s.heap H → g.B.StaysIn h₀ → VR s.heap a v → wpAny (model g.prog g.w) F.A (pyIter v) (fun it s₂ => codeAny (model g.prog g.w) F.A (.forLoop target it body orelse F.env)
    (fun r s' => match r with | .ok f => OkP g F FR Q h₀ H₀ f s' | .error e => cameBackBy (model g.prog g.w) F.A F.env (ErP g F X h₀ H₀) e s') s₂) (ErP g F X h₀ H₀) s
noncomputable abbrev kFor (g : G) (F : Fm) (target : Expr) (body orelse : List Stmt) (Q : Fl → Loc → AH → Prop) (X : Value → List V → Loc → AH → Prop) : V → Loc → AH → Prop := fun a m H => ForW g F target a body orelse m H Q X
theorem s_for {target iter : Expr} {body orelse : List Stmt} {pos : Pos} (hs : ∀ x, foldedSetIterable iter F.env x = pure x) (h : WE g F (eval iter F.env) m H (kFor g F target body orelse Q X) X) :
    WS g F (exec (.For target iter body orelse pos) F.env) m H Q X :=
  fun s S => wpAny_For (h.run S (fun v s₁ a m₁ H₁ r₁ S₁ k₁ h₁ => h₁ s.heap H s₁ v S₁ k₁ S.base r₁) (fun _ _ x => x)) hs
noncomputable abbrev JTurn (g : G) (F : Fm) (target : Expr) (body : List Stmt) (J : Nat → Loc → AH → Prop) (Q : Fl → Loc → AH → Prop) (X : Value → List V → Loc → AH → Prop) (i : Nat) (x : V) (m : Loc) (H : AH) : Prop :=
  WA g F target x m H (kBody g F body (kLoop J Q i) X) X
theorem iter_list {l it : Addr} {xs : List V} (hk : okA it) (hh : F.A.handled = none) : Iter g F it [it] (fun i h => h.IsListIter it l i) (fun H => H l = some (.list xs)) xs.length (fun i => xs.getD i .none) anyT := by
  refine .plain hk (obj := fun i h qq1 => qq1.elim fun o qq2 => qq2.elim fun e qq3 => qq3.elim fun c d => ⟨o, _, _, e, d, c, rfl, rfl⟩)
    (stay := fun i h h' qq1 q _ => qq1.elim fun o qq2 => qq2.elim fun e r => ⟨o, q.trans e, r⟩)
    (item := fun i m H s Q E hi S p c hq => by
    obtain ⟨_, vs, ep, e, hr⟩ := S.obj l _ c
    obtain ⟨v, ev, rv⟩ := hr.getElem? (i := i) (x := xs[i]) (List.getElem?_eq_getElem hi)
    have hl : s.heap.IsList l vs.toArray := ⟨_, e, rfl, ep, rfl⟩
    refine wpAny_pyNext_list_item p hl (x := v) (by simpa using ev) fun h' p' hs => hq h' s.toks v ?_ p' (fun c o' e' n => (hs.2 c n).trans e')
    rw [List.getD_eq_getElem?_getD, List.getElem?_eq_getElem hi]
    exact rv.mono fun a o im ea => (hs.2 a fun q => by subst q; obtain ⟨o', e', c', _⟩ := p; rw [e'] at ea; cases ea; have := im.cls; rw [c'] at this; cases this).trans ea)
    (self := fun i s Q E p h => wpAny_pyIter_listiter p h)
    (stop := fun m H s Q E S p c hq => by
    obtain ⟨_, vs, ep, e, hr⟩ := S.obj l _ c
    have hl : s.heap.IsList l vs.toArray := ⟨_, e, rfl, ep, rfl⟩
    refine wpAny_pyNext_list_end hh p hl ?_ fun h' hs => hq h' s.toks fun c o' e' n => hs c o' n e'
    rw [List.getElem?_toArray, List.getElem?_eq_none]
    rw [hr.length]; exact Nat.le_refl _)
theorem iter_range {it : Addr} {a c : Int} {n : Nat} (hk : okA it) (hh : F.A.handled = none) : Iter g F it [it] (fun i h => IsRangeIter h it (a + (i : Int) * c) ((n : Int) - (i : Int)) c) (fun _ => True) n (fun i => .int (a + (i : Int) * c)) anyT := by
  refine .plain hk (obj := fun i h e => ⟨_, _, _, e, rfl, rfl, rfl, rfl⟩)
    (stay := fun i h h' e q _ => q.trans e)
    (item := fun i m H s Q E hi S p _ hq => by
    refine wpAny_pyNext_range_item p (by exact o70 hi) fun h' p' hs => hq h' _ _ (.int' _ _) ?_ (fun c o' e' n => (hs.2 c n).trans e')
    have e1 : a + ((i + 1 : Nat) : Int) * c = a + (i : Int) * c + c := by push_cast; rw [Int.add_mul, Int.one_mul, Int.add_assoc]
    have e2 : (n : Int) - ((i + 1 : Nat) : Int) = (n : Int) - (i : Int) - 1 := by push_cast; exact o71
    rw [e1, e2]; exact p')
    (self := fun i s Q E p h => wpAny_pyIter_rangeiter p h)
    (stop := fun m H s Q E S p _ hq => wpAny_pyNext_range_end hh p (by exact o72) fun h' hs => hq h' s.toks fun c o' e' n => hs c o' n e')
theorem iter_tup {t it : Addr} {xs : List V} (hk : okA it) (hh : F.A.handled = none) (hz : okA t) (hne : t ≠ it) : Iter g F it [it] (fun i h => IsTupIter h it t i ∧ ∃ vs ep, h.get? t = some (tupObj vs ep) ∧ VRs h xs vs) (fun _ => True) xs.length (fun i => xs.getD i .none) anyT := by
  refine .plain hk (obj := fun i h qq1 => qq1.elim fun qq2 _ => qq2.elim fun o qq3 => qq3.elim fun e qq4 => qq4.elim fun c d => ⟨o, _, _, e, d, c, rfl, rfl⟩)
    (stay := fun i h h' qq1 q k => qq1.elim fun qq2 qq3 => qq2.elim fun o qq4 => qq4.elim fun e r => qq3.elim fun vs qq5 => qq5.elim fun ep qq6 => qq6.elim fun e' hr => ⟨⟨o, q.trans e, r⟩, vs, ep, k.tup _ _ (.tup _ _ hz) e', hr.mono k.tup⟩)
    (item := fun i m H s Q E hi S p _ hq => by
    obtain ⟨p, vs, ep, e, hr⟩ := p
    obtain ⟨v, ev, rv⟩ := hr.getElem? (i := i) (x := xs[i]) (List.getElem?_eq_getElem hi)
    have hl : IsTup s.heap t vs.toArray := ⟨_, e, rfl, ep, rfl⟩
    refine next_tuple_item p hl (x := v) (by simpa using ev) fun h' p' hs => ?_
    have k : ∀ a o, Imm a o → s.heap.get? a = some o → h'.get? a = some o := fun a o im ea => (hs.2 a fun q => by subst q; obtain ⟨o', e', c', _⟩ := p; rw [e'] at ea; cases ea; have := im.cls; rw [c'] at this; cases this).trans ea
    refine hq h' s.toks v ?_ ⟨p', vs, ep, (hs.2 t hne).trans e, hr.mono k⟩ (fun c o' e' n => (hs.2 c n).trans e')
    rw [List.getD_eq_getElem?_getD, List.getElem?_eq_getElem hi]
    exact rv.mono k)
    (self := fun i s Q E p h => wpAny_pyIter_tupleiter p.1 h)
    (stop := fun m H s Q E S p _ hq => by
    obtain ⟨p, vs, ep, e, hr⟩ := p
    have hl : IsTup s.heap t vs.toArray := ⟨_, e, rfl, ep, rfl⟩
    refine next_tuple_end hh p hl ?_ fun h' hs => hq h' s.toks fun c o' e' n => hs c o' n e'
    rw [List.getElem?_toArray, List.getElem?_eq_none]
    rw [hr.length]; exact Nat.le_refl _)
theorem St.fresh {s : Shared} (S : St g F m H s) : s.heap.objs.size ∉ F.mine := fun q => by
  obtain ⟨_, _, o, e, _⟩ := S.mine _ q
  exact absurd (Heap.lt_size e) (Nat.lt_irrefl _)
theorem Keep.fresh {h₀ : Heap} {H₀ : AH} {s : Shared} (K : Keep F h₀ H₀ s.heap H) : h₀.get? s.heap.objs.size = none := by
  cases q : h₀.get? s.heap.objs.size with
  | none => rfl
  | some o => obtain ⟨o', e⟩ := K.alive _ o q; exact absurd (Heap.lt_size e) (Nat.lt_irrefl _)
noncomputable def IterableT (g : G) (tg : Expr → Bool) (a : V) (n : Nat) (val : Nat → V) (C : AH → Prop) : Prop :=
  ∀ (F : Fm) m H s v, St g F m H s → C H → VR s.heap a v → ∀ (Q : Value → Shared → Prop) (E : Value → Shared → Prop),
    (∀ o P, (∀ F' : Fm, F'.A.handled = none → Iter g F' s.heap.objs.size [s.heap.objs.size] P C n val tg) → o.isFreed = false → P 0 (s.heap.push o) → Q (.ref s.heap.objs.size) { s with heap := s.heap.push o }) → wpAny (model g.prog g.w) F.A (pyIter v) Q E s
noncomputable abbrev Iterable (g : G) (a : V) (n : Nat) (val : Nat → V) (C : AH → Prop) : Prop := IterableT g anyT a n val C
theorem it_list {l : Addr} {xs : List V} : Iterable g (.ref l) xs.length (fun i => xs.getD i .none) (fun H => H l = some (.list xs)) := fun F m H s v S c r Q E h => by
  rw [VR.ref_iff] at r; subst r
  obtain ⟨_, vs, ep, e, hr⟩ := S.obj l _ c
  exact wpAny_pyIter_list (items := vs.toArray) ⟨_, e, rfl, ep, rfl⟩ (h _ _ (fun F' hh => iter_list (S.okn (Nat.le_refl _)) hh) rfl ⟨_, Heap.get?_push_size _ rfl, rfl, rfl⟩)
theorem it_tup {xs : List V} : Iterable g (.tup xs) xs.length (fun i => xs.getD i .none) (fun _ => True) := fun F m H s v S c r Q E h => by
  rw [VR.tup_iff] at r
  obtain ⟨t, vs, ep, rfl, e, hr, hz⟩ := r
  have C : ∀ b o, s.heap.get? b = some o → (s.heap.push { cls := .type "tuple_iterator", data := .fields #[.ref t, .int 0 0] }).get? b = some o := fun _ _ e => Heap.get?_push_of_some _ e
  exact iter_tuple (items := vs.toArray) ⟨_, e, rfl, ep, rfl⟩ (h _ _ (fun F' hh => iter_tup (xs := xs) (t := t) (S.okn (Nat.le_refl _)) hh hz (Nat.ne_of_lt (Heap.lt_size e))) rfl ⟨⟨_, Heap.get?_push_size _ rfl, rfl, rfl⟩, vs, ep, C _ _ e, hr.mono fun _ _ _ z => C _ _ z⟩)
theorem it_range {a b : Int} {n : Nat} (ha : -(2 ^ 62) ≤ a ∧ a < 2 ^ 62) (hb : -(2 ^ 62) ≤ b ∧ b < 2 ^ 62) (hn : (n : Int) = if a < b then b - a else 0) : Iterable g (.rng a b 1) n (fun i => .int (a + i)) (fun _ => True) := fun F m H s v S c r Q E h => by
  obtain ⟨t, t1, t2, t3, rfl, e⟩ := r
  refine wpAny_pyIter_range e (small_one ha.1 ha.2 hb.1 hb.2) (h _ (fun (i : Nat) h => IsRangeIter h s.heap.objs.size (a + (i : Int) * 1) ((n : Int) - (i : Int)) 1) (fun F' hh => ?_) rfl ?_)
  · have := iter_range (g := g) (F := F') (it := s.heap.objs.size) (a := a) (c := 1) (n := n) (S.okn (Nat.le_refl _)) hh
    have e : (fun i : Nat => V.int (a + (i : Int) * 1)) = fun i : Nat => V.int (a + i) := by funext i; rw [Int.mul_one]
    rw [e] at this; exact this
  · have e1 : a + ((0 : Nat) : Int) * 1 = a := by exact o73
    have e2 : (n : Int) - ((0 : Nat) : Int) = Builtin.Range.rangeSize a b 1 := by rw [rangeSize_one, hn]; exact o74
    show IsRangeIter _ _ _ _ _
    rw [e1, e2]; exact Heap.get?_push_size _ rfl
theorem one {p : Addr → Prop} {a : Addr} (h : p a) : ∀ b ∈ [a], p b := fun b hb => by rw [List.mem_singleton] at hb; subst hb; exact h
theorem for_anyT {tg : Expr → Bool} {target : Expr} {body orelse : List Stmt} {a : V} {n : Nat} {val : Nat → V} {C : AH → Prop} (I : IterableT g tg a n val C) (ht : tg target = true) (J : Nat → Loc → AH → Prop) (hh : F.A.handled = none) (hs : F.stack ≠ []) (hl : ∀ i m H, J i m H → C H) (j : J 0 m H)
    (turn : ∀ i m H, i < n → J i m H → JTurn g F target body J Q X i (val i) m H) (fin : ∀ m H, J n m H → WS g F (execs orelse F.env) m H Q X) : ForW g F target a body orelse m H Q X := fun h₀ H₀ s v S K B0 r => by
  refine I F m H s v S (hl _ _ _ j) r _ _ fun o P hI hf p => ?_
  obtain ⟨S₁, K₁⟩ := S.ext (t := s.toks) (fun _ _ e => Heap.get?_push_of_some o e)
  exact for_core (hI F hh) ht hs hl (fun i m H hi hj => turn i m H hi hj) fin S₁ (K.trans K₁) B0 p (one K.fresh) (one (S.lt (Nat.le_refl _)).1) (one S.fresh) j
theorem for_any {target : Expr} {body orelse : List Stmt} {a : V} {n : Nat} {val : Nat → V} {C : AH → Prop} (I : Iterable g a n val C) (J : Nat → Loc → AH → Prop) (hh : F.A.handled = none) (hs : F.stack ≠ []) (hl : ∀ i m H, J i m H → C H) (j : J 0 m H)
    (turn : ∀ i m H, i < n → J i m H → JTurn g F target body J Q X i (val i) m H) (fin : ∀ m H, J n m H → WS g F (execs orelse F.env) m H Q X) : ForW g F target a body orelse m H Q X := for_anyT I rfl J hh hs hl j turn fin
theorem getD_of {xs : List V} {i : Nat} (hi : i < xs.length) : xs.getD i .none = xs[i] := by rw [List.getD_eq_getElem?_getD, List.getElem?_eq_getElem hi]; rfl
theorem s_while {test : Expr} {body orelse : List Stmt} {pos : Pos} (J : Nat → Loc → AH → Prop) (k : Nat) (hs : F.stack ≠ []) (j : J k m H)
    (turn : ∀ n m H, J n m H → WB g F (isTrue test F.env (eval test F.env)) m H (fun b m H => if b then WS g F (execs body F.env) m H (fun f m H => match f with | .next => ∃ k, k < n ∧ J k m H | .cont => ∃ k, k < n ∧ J k m H | .brk => Q .next m H | .ret v => Q (.ret v) m H) X
      else WS g F (execs orelse F.env) m H Q X) X) : WS g F (exec (.While test body orelse pos) F.env) m H Q X := fun s S => by
  have err : ∀ e s', ErP g F X s.heap H e s' → notedBy (model g.prog g.w) F.A F.env (fun e s' => (match (Except.error e : Result) with | .ok f => OkP g F FR Q s.heap H f s' | .error e => cameBackBy (model g.prog g.w) F.A F.env (ErP g F X s.heap H) e s')) e s' := fun e s' x => by
    obtain ⟨_, _, _, _, _, S', _⟩ := id x
    exact noted S.base (S'.frameL hs) x fun s'' c as m' H' S'' K'' f'' q => cameBack S.base S'' K'' f'' q
  refine wpAny_While (codeAny_whileLoop (fun n s' => ∃ m' H', St g F m' H' s' ∧ Keep F s.heap H s'.heap H' ∧ J n m' H') (fun n s' qq1 => qq1.elim fun m' qq2 => qq2.elim fun H' qq3 => qq3.elim fun S' qq4 => qq4.elim fun K' j' => ?_) k ⟨m, H, S, .refl .., j⟩)
  refine wpAny_mono (turn n m' H' j' s' S') (fun b s₁ yy => yy.elim fun b' m₁ H₁ r₁ S₁ K₁ q₁ => ?_) fun e s₁ x => err e s₁ (x.after K')
  have K₁' := K'.trans K₁
  cases r₁
  cases b
  · exact wpAny_mono (q₁ s₁ S₁) (fun _ _ x => x.after K₁') fun e s₂ x => err e s₂ (x.after K₁')
  · refine wpAny_mono (q₁ s₁ S₁) (fun f s₂ yy => yy.elim fun f' m₂ H₂ r₂ S₂ K₂ q₂ => ?_) fun e s₂ x => err e s₂ (x.after K₁')
    have K₂' := K₁'.trans K₂
    cases f' with
    | next => cases r₂; obtain ⟨k', hk, jk⟩ := q₂; exact ⟨k', hk, m₂, H₂, S₂, K₂', jk⟩
    | cont => cases r₂; obtain ⟨k', hk, jk⟩ := q₂; exact ⟨k', hk, m₂, H₂, S₂, K₂', jk⟩
    | brk => cases r₂; exact ⟨.next, m₂, H₂, rfl, S₂, K₂', q₂⟩
    | ret x => obtain ⟨v, rfl, rv⟩ := r₂; exact ⟨.ret x, m₂, H₂, ⟨v, rfl, rv⟩, S₂, K₂', q₂⟩
end
end Mine
end
section
open PySem PySem.W PySem.Calls PyProof.Rows
set_option linter.unusedSectionVars false
set_option linter.unusedVariables false
namespace Mine
variable [ζ : Dead]
noncomputable def newC (scope : Scope) (C : Addr) : List (Str × Addr) := cellsFrom (C + 1) scope.names []
theorem cellsFrom_app : ∀ (names : List (Str × NameKind)) (n : Nat) (acc : List (Str × Addr)), cellsFrom n names acc = cellsFrom n names [] ++ acc
  | [], _, _ => rfl
  | (x, k) :: r, n, acc => by
    unfold cellsFrom
    split
    · rw [cellsFrom_app r _ ((x, n) :: acc), cellsFrom_app r _ [(x, n)], List.append_assoc]; rfl
    · exact cellsFrom_app r n acc
theorem cellsFrom_mem : ∀ (names : List (Str × NameKind)) (n : Nat) (p : Str × Addr), p ∈ cellsFrom n names [] → n ≤ p.2 ∧ (p.1, NameKind.cell) ∈ names
  | [], _, _, h => by cases h
  | (x, k) :: r, n, p, h => by
    unfold cellsFrom at h
    split at h
    · rename_i hk
      rw [cellsFrom_app] at h
      rcases List.mem_append.mp h with h | h
      · obtain ⟨a, b⟩ := cellsFrom_mem r _ p h; exact ⟨Nat.le_of_succ_le a, .tail _ b⟩
      · rw [List.mem_singleton] at h; subst h
        have hk : k = .cell := eq_of_beq hk
        subst hk; exact ⟨Nat.le_refl _, .head _⟩
    · obtain ⟨a, b⟩ := cellsFrom_mem r _ p h; exact ⟨a, .tail _ b⟩
noncomputable def Fm.comp (F : Fm) (scope : Scope) (cl : List (Str × Addr)) (C : Addr) : Fm := { F with env := compEnvC scope (newC scope C ++ cl) C F.env, mine := C :: (newC scope C).map (·.2) }
theorem comp_mine {F : Fm} {scope : Scope} {cl : List (Str × Addr)} {C b : Addr} (h : b ∈ (F.comp scope cl C).mine) : C ≤ b := by
  rcases List.mem_cons.mp h with rfl | h
  · exact Nat.le_refl _
  · obtain ⟨p, hp, rfl⟩ := List.mem_map.mp h
    exact Nat.le_of_succ_le (cellsFrom_mem _ _ _ hp).1
theorem lookup_app {cs cl : List (Str × Addr)} {x : Str} {c : Addr} (h : (cs ++ cl).lookup x = some c) : cs.lookup x = some c ∨ cl.lookup x = some c := by
  rw [List.lookup_append] at h
  cases q : cs.lookup x with
  | none => rw [q] at h; exact .inr h
  | some d => rw [q] at h; exact .inl h
structure CompOf (Fc F : Fm) (scope : Scope) : Prop where
  sc : Fc.env.scope = relabel scope F.env
  A : Fc.A = F.A
  lvl : Fc.lvl = F.lvl
  stack : Fc.stack = F.stack
  cells : ∀ x, scope.names.lookup x = some .free → ∃ c, Fc.env.cells.lookup x = some c
  cel : ∀ x, scope.names.lookup x = some .cell → ∃ c, Fc.env.cells.lookup x = some c ∧ c ∈ Fc.mine
noncomputable def compLoc (scope : Scope) (m : Loc) : Loc := fun x => if scope.names.lookup x = some .free then m x else none
theorem closure_is (env : Env) (names : List (Str × NameKind)) (hc : ∀ n, (n, NameKind.free) ∈ names → ∃ c, env.cells.lookup n = some c) :
    ∀ (acc : List (Str × Addr)), ∃ cl, (forIn names acc (fun (x : Str × NameKind) (r : List (Str × Addr)) => (if x.2 == NameKind.free then do let a ← cellOf env x.1; pure (ForInStep.yield ((x.1, a) :: r)) else pure (ForInStep.yield r) : Sem (ForInStep (List (Str × Addr))))) : Sem (List (Str × Addr))) = pure cl ∧
      ((∀ x c, acc.lookup x = some c → env.cells.lookup x = some c) → ∀ x c, cl.lookup x = some c → env.cells.lookup x = some c) ∧
      (∀ x, ((acc.lookup x).isSome = true ∨ (x, NameKind.free) ∈ names) → (cl.lookup x).isSome = true) := by
  induction names with
  | nil => intro acc; exact ⟨acc, rfl, id, fun x h => h.elim id fun q => by cases q⟩
  | cons y r ih =>
    intro acc
    obtain ⟨n, k⟩ := y
    have ih := ih fun n hn => hc n (List.mem_cons_of_mem _ hn)
    by_cases hk : k = .free
    · subst hk
      obtain ⟨c, ec⟩ := hc n List.mem_cons_self
      obtain ⟨cl, e, h1, h2⟩ := ih ((n, c) :: acc)
      refine ⟨cl, ?_, fun hacc => h1 fun x c' hx => ?_, fun x hx => h2 x ?_⟩
      · rw [List.forIn_cons, ← e]
        simp only [beq_self_eq_true, if_true]
        unfold cellOf; rw [ec]; rfl
      · rw [List.lookup_cons] at hx
        cases q : x == n with
        | true => rw [q] at hx; cases hx; rw [beq_iff_eq.mp q]; exact ec
        | false => rw [q] at hx; exact hacc x c' hx
      · rw [List.lookup_cons]
        cases q : x == n with
        | true => exact .inl rfl
        | false =>
          refine hx.imp id fun z => ?_
          rcases List.mem_cons.mp z with z | z
          · have : x = n := by cases z; rfl
            rw [this] at q; simp at q
          · exact z
    · obtain ⟨cl, e, h1, h2⟩ := ih acc
      refine ⟨cl, ?_, h1, fun x hx => h2 x (hx.imp id fun z => ?_)⟩
      · rw [List.forIn_cons, ← e]
        have : (k == NameKind.free) = false := by simpa using hk
        simp only [this, Bool.false_eq_true, if_false]
        rfl
      · rcases List.mem_cons.mp z with z | z
        · cases z; exact absurd rfl hk
        · exact z
theorem closureFor_is {scope : Scope} {env : Env} (hc : ∀ n, (n, NameKind.free) ∈ scope.names → ∃ c, env.cells.lookup n = some c) :
    ∃ cl, closureFor scope env = pure cl ∧ (∀ x c, cl.lookup x = some c → env.cells.lookup x = some c) ∧ ∀ x, (x, NameKind.free) ∈ scope.names → ∃ c, cl.lookup x = some c := by
  obtain ⟨cl, e, h1, h2⟩ := closure_is env scope.names hc []
  refine ⟨cl, ?_, h1 (fun _ _ q => by cases q), fun x hx => Option.isSome_iff_exists.mp (h2 x (.inr hx))⟩
  exact congrArg (fun (t : Sem (List (Str × Addr))) => t >>= fun cs => pure cs) e
theorem lookup_relabel_free {env : Env} : ∀ {names : List (Str × NameKind)} {x : Str}, names.lookup x = some .free →
    (names.map fun (n, k) => if (k == NameKind.free && env.scope.kind == .function && env.kindOf n == some .cell) then (n, NameKind.cell) else (n, k)).lookup x = some .cell ∨
    (names.map fun (n, k) => if (k == NameKind.free && env.scope.kind == .function && env.kindOf n == some .cell) then (n, NameKind.cell) else (n, k)).lookup x = some .free
  | [], _, h => by simp at h
  | (n, k) :: r, x, h => by
    have ih := @lookup_relabel_free env r x
    show List.lookup x ((if (k == NameKind.free && env.scope.kind == .function && env.kindOf n == some .cell) = true then (n, NameKind.cell) else (n, k)) :: _) = _ ∨ List.lookup x ((if (k == NameKind.free && env.scope.kind == .function && env.kindOf n == some .cell) = true then (n, NameKind.cell) else (n, k)) :: _) = _
    cases hx : x == n with
    | true =>
      simp only [List.lookup_cons, hx] at h
      cases h
      by_cases hc : (NameKind.free == NameKind.free && env.scope.kind == .function && env.kindOf n == some .cell) = true
      · rw [if_pos hc]; simp [List.lookup_cons, hx]
      · rw [if_neg hc]; simp [List.lookup_cons, hx]
    | false =>
      simp only [List.lookup_cons, hx] at h
      by_cases hc : (k == NameKind.free && env.scope.kind == .function && env.kindOf n == some .cell) = true
      · rw [if_pos hc]; simp only [List.lookup_cons, hx]; exact ih h
      · rw [if_neg hc]; simp only [List.lookup_cons, hx]; exact ih h
section
variable {g : G} {F : Fm} {m : Loc} {H : AH} {s : Shared} {h₀ : Heap} {H₀ : AH}
theorem St.enterComp {scope : Scope} {cl : List (Str × Addr)} {h' : Heap} {t : Nat} (S : St g F m H s) (hk : scope.kind = .function) (kp : ∀ b o, s.heap.get? b = some o → h'.get? b = some o) (hn : h'.Ns s.heap.objs.size (fun _ => none))
    (ok : CellsOk h' (s.heap.objs.size + 1) (newC scope s.heap.objs.size)) (hdis : ∀ y ∈ scope.names, y.2 = .cell → scope.names.lookup y.1 = some .cell)
    (hcl : ∀ x c, cl.lookup x = some c → F.env.cells.lookup x = some c) (hcl2 : ∀ x, (x, NameKind.free) ∈ scope.names → ∃ c, cl.lookup x = some c)
    (hfree : ∀ x, scope.names.lookup x = some .free → (F.env.kindOf x = some .cell ∨ F.env.kindOf x = some .free) ∧ (x == ("__classdict__" : Str)) = false) :
    St g (F.comp scope cl s.heap.objs.size) (compLoc scope m) H { s with heap := h', toks := t } ∧ CompOf (F.comp scope cl s.heap.objs.size) F scope := by
  have mn : Mono s.heap h' := ⟨fun _ _ _ e => kp _ _ e, .ext kp⟩
  obtain ⟨oL, esL, epL, eL, dL, _⟩ := id hn
  obtain ⟨n1, n2, n3⟩ := S.lt (Nat.le_refl s.heap.objs.size)
  have new : ∀ x c, (newC scope s.heap.objs.size).lookup x = some c → h'.IsCell c none ∧ s.heap.objs.size ≤ c := fun x c e => ⟨(ok.empty x c (mem_of_lookup e)).1, Nat.le_of_succ_le (ok.empty x c (mem_of_lookup e)).2⟩
  have old : ∀ x c, cl.lookup x = some c → ¬ s.heap.objs.size ≤ c := fun x c e q => by
    obtain ⟨_, v, o, e', _⟩ := S.loc.cell x c (hcl x c e)
    rw [(S.lt q).2.2] at e'; cases e'
  have fcl : ∀ x, scope.names.lookup x = some .free → ∃ c, (newC scope s.heap.objs.size ++ cl).lookup x = some c ∧ cl.lookup x = some c := fun x hx => by
    obtain ⟨c, ec⟩ := hcl2 x (mem_of_lookup hx)
    refine ⟨c, ?_, ec⟩
    rw [List.lookup_append]
    cases q : (newC scope s.heap.objs.size).lookup x with
    | none => exact ec
    | some d =>
      have := hdis _ (cellsFrom_mem _ _ _ (mem_of_lookup q)).2 rfl
      rw [hx] at this; cases this
  refine ⟨⟨fun b o e => kp b o (S.base b o e), fun b o e => ?_, ⟨hk, ⟨_, hn, fun y a ha => ?_⟩, fun y c hy => ?_, fun y z c hy hz => ?_⟩, List.mem_cons_self, fun b hb' => ?_, ?_, fun b hb' => ?_, S.frame, S.Afr, S.gens, S.os, S.room, S.envg, S.deadK fun b o e => ⟨o, kp b o e⟩⟩,
    ⟨rfl, rfl, rfl, rfl, fun x hx => (fcl x hx).elim fun c qq1 => qq1.elim fun e _ => ⟨c, e⟩, fun x hx => ?_⟩⟩
  · obtain ⟨b1, b2⟩ := S.obj b o e
    obtain ⟨r, e', _⟩ := b2.get
    exact ⟨b1, b2.mono mn ((kp b r e').trans e'.symm)⟩
  · unfold compLoc at ha
    by_cases q : scope.names.lookup y = some .free
    · rw [if_pos q] at ha
      obtain ⟨mr, _, hm⟩ := S.loc.val
      obtain ⟨v, rv, w⟩ := hm y a ha
      refine ⟨v, rv.mono mn.tup, .inr ?_⟩
      obtain ⟨kq, ncd⟩ := hfree y q
      rcases w with ⟨w, _⟩ | ⟨_, c, w1, w2⟩
      · rw [w] at kq; rcases kq with kq | kq <;> cases kq
      · obtain ⟨c', ec, ec'⟩ := fcl y q
        have : c' = c := by have := hcl y c' ec'; rw [w1] at this; exact (Option.some.inj this).symm
        subst this
        refine ⟨?_, c', ec, w2.keeps kp⟩
        rcases lookup_relabel_free (env := F.env) q with z | z
        · exact .inl z
        · exact .inr ⟨z, ncd⟩
    · rw [if_neg q] at ha; cases ha
  · rcases lookup_app hy with e | e
    · obtain ⟨z, le⟩ := new y c e; exact ⟨(S.lt le).1, _, z⟩
    · obtain ⟨z1, v, z2⟩ := S.loc.cell y c (hcl y c e)
      exact ⟨z1, v, z2.keeps kp⟩
  · rcases lookup_app hy with e | e <;> rcases lookup_app hz with e' | e'
    · exact name_of_addr ok.apart (mem_of_lookup e) (mem_of_lookup e')
    · exact absurd (new y c e).2 (old z c e')
    · exact absurd (new z c e').2 (old y c e)
    · exact S.loc.apart y z c (hcl y c e) (hcl z c e')
  · rcases List.mem_cons.mp hb' with rfl | hb'
    · exact ⟨n1, n2, oL, eL, .inl ⟨_, _, dL⟩⟩
    · obtain ⟨p, hp, rfl⟩ := List.mem_map.mp hb'
      obtain ⟨⟨o, eo, d⟩, le⟩ := ok.empty p.1 p.2 hp
      obtain ⟨m1, m2, _⟩ := S.lt (Nat.le_of_succ_le le)
      exact ⟨m1, m2, o, eo, .inr ⟨_, d⟩⟩
  · exact funFrames_mono S.frs fun b hb' o e => ⟨o, kp b o e, id⟩
  · obtain ⟨h1, o, es, ep, h3, h4⟩ := S.frd b hb'
    exact ⟨h1, o, es, ep, kp b o h3, h4⟩
  · have : ((newC scope s.heap.objs.size).lookup x).isSome = true := cellsFrom_some _ _ _ (.inl hx)
    obtain ⟨c, ec⟩ := Option.isSome_iff_exists.mp this
    refine ⟨c, ?_, List.mem_cons_of_mem _ (List.mem_map.mpr ⟨(x, c), mem_of_lookup ec, rfl⟩)⟩
    show (newC scope s.heap.objs.size ++ cl).lookup x = some c
    rw [List.lookup_append, ec]; rfl
theorem St.backComp {scope : Scope} {cl : List (Str × Addr)} {m' : Loc} {H' : AH} {h₁ : Heap} {s' : Shared} {C : Addr} (S : St g F m H s) (kp : ∀ b o, s.heap.get? b = some o → h₁.get? b = some o) (nC : s.heap.objs.size ≤ C)
    (S' : St g (F.comp scope cl C) m' H' s') (K' : Keep (F.comp scope cl C) h₁ H s'.heap H') : St g F m H' s' ∧ Keep F s.heap H s'.heap H' := by
  have lt : ∀ b o, s.heap.get? b = some o → b ∉ (F.comp scope cl C).mine := fun b o e q => absurd (Heap.lt_size e) (Nat.not_lt.mpr (Nat.le_trans nC (comp_mine q)))
  have same : ∀ b o, s.heap.get? b = some o → H b = none → H' b = none ∧ (s'.heap.get? b = some o ∨ (b ∈ F.fr ∧ ∃ sl, s'.heap.get? b = some { o with slots := sl })) := fun b o e n => K'.same b o (kp b o e) n (lt b o e)
  have K : Keep F s.heap H s'.heap H' := ⟨fun b o e => K'.alive b o (kp b o e), (Dct.ext kp).trans K'.dct, fun b o e n _ => same b o e n⟩
  refine ⟨⟨S'.base, S'.obj, ?_, S.locm, fun b hb => ?_, S'.frs, S'.frd, S.frame, S.Afr, S'.gens, S'.os, S.room, S.envg, S'.dead⟩, K⟩
  · refine S.loc.mono (K.mono S) (fun y c hy => ?_) fun b hb o e => (same b o e (S.locIs b hb).1).2.imp id fun z => z.2
    obtain ⟨n, o, e, _⟩ := S.locIs c (.inr ⟨y, hy⟩)
    exact (same c o e n).1
  · obtain ⟨n1, n2, o, e, w⟩ := S.mine b hb
    obtain ⟨n', z⟩ := same b o e n1
    rcases z with z | ⟨_, sl, z⟩
    · exact ⟨n', n2, o, z, w⟩
    · exact ⟨n', n2, _, z, w⟩
structure AccAt (F : Fm) (h : Heap) (H : AH) (acc : Addr) (ys : List V) : Prop where
  obj : ∃ vs ep, h.get? acc = some (lstObj vs ep) ∧ VRs h ys vs
  un : H acc = none
  nm : acc ∉ F.mine
theorem AccAt.nfr {acc : Addr} {ys : List V} (S : St g F m H s) (x : AccAt F s.heap H acc ys) : acc ∉ F.fr := fun q => by
  obtain ⟨_, o, es, ep, e, d⟩ := S.frd acc q
  obtain ⟨vs, ep', e', _⟩ := x.obj
  rw [e'] at e; cases e; cases d
theorem AccAt.keep {acc : Addr} {ys : List V} {h' : Heap} {H' : AH} (S : St g F m H s) (k : Keep F s.heap H h' H') (x : AccAt F s.heap H acc ys) : AccAt F h' H' acc ys := by
  obtain ⟨vs, ep, e, r⟩ := x.obj
  obtain ⟨n, z⟩ := k.same acc _ e x.un x.nm
  refine ⟨⟨vs, ep, ?_, r.mono (k.mono S).tup⟩, n, x.nm⟩
  rcases z with z | ⟨z, _⟩
  · exact z
  · exact absurd z (x.nfr S)
theorem Keep.unhide {a : Addr} {h' : Heap} {H' : AH} (K : Keep F h₀ H₀ s.heap H) (k : Keep F (s.heap.hide a) H h' H') (n0 : h₀.get? a = none) : Keep F h₀ H₀ h' H' := by
  have up : ∀ b o, b ≠ a → s.heap.get? b = some o → (s.heap.hide a).get? b = some o := fun b o n e => (Heap.hide_ne _ n).trans e
  have ne : ∀ b o, h₀.get? b = some o → b ≠ a := fun b o e q => by subst q; rw [n0] at e; cases e
  refine ⟨fun b o e => ?_, fun b o es ep e d => ?_, fun b o e n hb => ?_⟩
  · obtain ⟨o', e'⟩ := K.alive b o e
    exact k.alive b o' (up b o' (ne b o e) e')
  · obtain ⟨o', es', ep', e', d'⟩ := K.dct b o es ep e d
    exact k.dct b o' es' ep' (up b o' (ne b o e) e') d'
  · obtain ⟨n', z⟩ := K.same b o e n hb
    rcases z with z | ⟨w, sl, z⟩
    · exact k.same b o (up b o (ne b o e) z) n' hb
    · obtain ⟨n'', y⟩ := k.same b _ (up b _ (ne b o e) z) n' hb
      rcases y with y | ⟨_, sl', y⟩
      · exact ⟨n'', .inr ⟨w, sl, y⟩⟩
      · exact ⟨n'', .inr ⟨w, sl', y⟩⟩
theorem Keep.hide {a : Addr} (F : Fm) (h : Heap) (H : AH) : Keep F (h.hide a) H h H :=
  ⟨fun b o e => ⟨o, Heap.of_hide e⟩, .ext fun _ _ e => Heap.of_hide e, fun b o e n _ => ⟨n, .inl (Heap.of_hide e)⟩⟩
theorem ErP.unhide {X : Value → List V → Loc → AH → Prop} {a : Addr} {e : Value} {s' : Shared} (K : Keep F h₀ H₀ s.heap H) (x : ErP g F X (s.heap.hide a) H e s') (n0 : h₀.get? a = none) : ErP g F X h₀ H₀ e s' := by
  obtain ⟨c, as, m', H', f, S, k, q⟩ := x
  refine ⟨c, as, m', H', f.since fun b o e => ?_, S, K.unhide k n0, q⟩
  obtain ⟨o', e'⟩ := K.alive b o e
  exact ⟨o', (Heap.hide_ne _ (fun q => by subst q; rw [n0] at e; cases e)).trans e'⟩
noncomputable def WAcc (g : G) (F : Fm) (acc : Addr) (t : Sem Unit) (ys : List V) (m : Loc) (H : AH) (Q : List V → Loc → AH → Prop) (X : Value → List V → Loc → AH → Prop) : Prop :=
  ∀ h₀ H₀ s, St g F m H s → Keep F h₀ H₀ s.heap H → h₀.get? acc = none → g.B.StaysIn h₀ → AccAt F s.heap H acc ys →
    wpAny (model g.prog g.w) F.A t (fun _ s' => ∃ ys' m' H', St g F m' H' s' ∧ Keep F h₀ H₀ s'.heap H' ∧ AccAt F s'.heap H' acc ys' ∧ Q ys' m' H') (ErP g F X h₀ H₀) s
variable {X : Value → List V → Loc → AH → Prop}
theorem acc_emit {acc : Addr} {ys : List V} {elt : Expr} {Q : List V → Loc → AH → Prop} (hsz : ys.length ≤ sizeLine) (h : WE g F (eval elt F.env) m H (kEmit Q ys) X) :
    WAcc g F acc (do let _ ← call (.builtin "list.append") [.ref acc, ← eval elt F.env]) ys m H Q X := fun h₀ H₀ s S K n0 B0 A => by
  refine wpAny_bind (h.run S (fun v s₁ a m₁ H₁ r₁ S₁ k₁ q₁ => ?_) fun e s' x => x.after K)
  have A₁ := A.keep S k₁
  obtain ⟨vs, ep, e, hr⟩ := A₁.obj
  refine wpAny_bind (wpAny_list_append_plain (items := vs.toArray) ⟨ep, e⟩ (fun h' qq1 hs => qq1.elim fun ep' e' => wpAny_pure ?_) (by rw [List.size_toArray, hr.length]; exact hsz))
  have nB : g.B.get? acc = none := by
    cases q : g.B.get? acc with
    | none => rfl
    | some o => rw [B0 acc o q] at n0; cases n0
  obtain ⟨S₂, K₂⟩ := S₁.un (t := s₁.toks) (h₀ := h₀) (H₀ := H₀) (h' := h') e ⟨fun _ _ q => (by cases q), fun _ q => (by cases q)⟩ A₁.un nB rfl (fun c o e n => (hs.2 c n).trans e) (.inr ⟨_, e'⟩)
  have tp : ∀ b o, Imm b o → s₁.heap.get? b = some o → h'.get? b = some o := fun b o i eb => (hs.2 b fun q => by subst q; rw [e] at eb; cases eb; have := i.cls; cases this).trans eb
  refine ⟨ys ++ [a], m₁, H₁, S₂, K₂ (K.trans k₁) n0, ⟨⟨vs ++ [v], ep', by rw [e']; simp, (hr.mono tp).append (.cons (r₁.mono tp) .nil')⟩, A₁.un, A₁.nm⟩, q₁⟩
noncomputable def testsOf (ifs : List Expr) (env : Env) : Sem Bool := forIn ifs true fun c r => if r = true then do let ok ← isTrue c env (eval c env); pure (ForInStep.yield ok) else pure (ForInStep.yield r)
theorem tests_nil {Q : Bool → Loc → AH → Prop} (h : Q true m H) : WB g F (testsOf [] F.env) m H Q X := fun s S => wpAny_tests_nil (OkP.now S rfl rfl rfl rfl h)
theorem tests_one {c : Expr} {Q : Bool → Loc → AH → Prop} (h : WB g F (isTrue c F.env (eval c F.env)) m H Q X) : WB g F (testsOf [c] F.env) m H Q X := fun s S => wpAny_tests_one (h s S)
noncomputable def turnTree (target iter : Expr) (ifs : List Expr) (it : Value) (tail : Sem Unit) (e : Expr) (d : Nat) (acc : Value) (env : Env) : Sem Fin := do
  standAt iter.pos
  match ← pyNext it with
  | none => pure (.done .next)
  | some v =>
    letOwnedTupleGo target it v
    assign target env v
    let ok ← testsOf ifs env
    if ok then
      tail
    again (.compLoop e d it acc env)
noncomputable def CompR (g : G) (F : Fm) (h₀ : Heap) (H₀ : AH) (acc : Addr) (Q : List V → Loc → AH → Prop) (X : Value → List V → Loc → AH → Prop) (r : Result) (s' : Shared) : Prop := match r with
  | .ok _ => ∃ ys m' H', St g F m' H' s' ∧ Keep F h₀ H₀ s'.heap H' ∧ AccAt F s'.heap H' acc ys ∧ Q ys m' H'
  | .error e => ∃ c as m' H', St g F m' H' s' ∧ Keep F h₀ H₀ s'.heap H' ∧ FlyT h₀ e c as s'.heap H' ∧ X c as m' H'
structure CompI (g : G) (F : Fm) (ws : List Addr) (acc : Addr) (P : Nat → Heap → Prop) (J : Nat → List V → Loc → AH → Prop) (h₀ : Heap) (H₀ : AH) (n k : Nat) (s' : Shared) (i : Nat) (ys' : List V) (m' : Loc) (H' : AH) : Prop where
  e : k = n + 1 - i
  hi : i ≤ n
  S : St g F m' H' s'
  K : Keep F h₀ H₀ s'.heap H'
  p : P i s'.heap
  nH : ∀ b ∈ ws, H' b = none
  A : AccAt F s'.heap H' acc ys'
  j : J i ys' m' H'
theorem comp_core {it acc : Addr} {ws : List Addr} {P : Nat → Heap → Prop} {C : AH → Prop} {n d : Nat} {val : Nat → V} {tg : Expr → Bool} {target iter elt : Expr} {ifs : List Expr} {tail : Sem Unit} {gens : List Comprehension} {scope : Scope} {pos : Pos} {ys : List V} {J : Nat → List V → Loc → AH → Prop} (I : Iter g F it ws P C n val tg) (ht : tg target = true)
    (hct : compTurn (.ListComp elt gens scope pos) d (.ref it) (.ref acc) F.env = turnTree target iter ifs (.ref it) tail (.ListComp elt gens scope pos) d (.ref acc) F.env)
    (hs : F.stack ≠ []) (hJ : ∀ i ys m H, J i ys m H → C H)
    (turn : ∀ i ys m H, i < n → J i ys m H → WA g F target (val i) m H (fun m H => WB g F (testsOf ifs F.env) m H (fun ok m H => if ok then WAcc g F acc tail ys m H (fun ys m H => J (i + 1) ys m H) X else J (i + 1) ys m H) X) X)
    (S : St g F m H s) (K : Keep F h₀ H₀ s.heap H) (B0 : g.B.StaysIn h₀) (p : P 0 s.heap) (n0 : ∀ b ∈ ws, h₀.get? b = none) (nH : ∀ b ∈ ws, H b = none) (nm : ∀ b ∈ ws, b ∉ F.mine) (na : h₀.get? acc = none) (nia : acc ∉ ws) (A0 : AccAt F s.heap H acc ys) (j : J 0 ys m H) :
    codeAny (model g.prog g.w) F.A (.compLoop (.ListComp elt gens scope pos) d (.ref it) (.ref acc) F.env) (CompR g F h₀ H₀ acc (J n) X) s := by
  have nB : ∀ b ∈ ws, g.B.get? b = none := fun b hb => by
    cases q : g.B.get? b with
    | none => rfl
    | some o => have := n0 b hb; rw [B0 b o q] at this; cases this
  have err : ∀ e s', ErP g F X h₀ H₀ e s' → notedBy (model g.prog g.w) F.A F.env (fun e s' => CompR g F h₀ H₀ acc (J n) X (.error e) s') e s' := fun e s' x => by
    obtain ⟨_, _, _, _, _, S', _⟩ := id x
    exact noted B0 (S'.frameL hs) x fun s'' c as m' H' S'' K'' f'' q => ⟨c, as, m', H', S'', K'', f'', q⟩
  refine codeAny_loop rfl (fun k s' => ∃ i ys' m' H', CompI g F ws acc P J h₀ H₀ n k s' i ys' m' H') ?_ (n + 1) ⟨0, ys, m, H, rfl, Nat.zero_le _, S, K, p, nH, A0, j⟩
  rintro k s' ⟨i, ys', m', H', rfl, hi, S', K', p', nH', A', j'⟩
  show wpAny _ _ ((compTurn (.ListComp elt gens scope pos) d (.ref it) (.ref acc) F.env).onRaise (fun x => do noteFrame x F.env; theTreesLotGoes x)) _ _ s'
  refine wpAny_noted ?_
  rw [hct]
  refine wpAny_bind (wpAny_standAt (wpAny_bind ?_))
  have accK : ∀ h₁ : Heap, (∀ c o', s'.heap.get? c = some o' → c ∉ ws → h₁.get? c = some o') → AccAt F h₁ H' acc ys' := fun h₁ C₁ => by
    obtain ⟨vs, ep, ea, ra⟩ := A'.obj
    refine ⟨⟨vs, ep, C₁ acc _ ea nia, ra.mono fun b o im eb => C₁ b o eb fun q => ?_⟩, A'.un, A'.nm⟩
    obtain ⟨o', e', d⟩ := I.obj i _ p' b q
    rw [e'] at eb; cases eb; exact d.ni im
  by_cases hlt : i < n
  · refine I.item i m' H' s' _ _ hlt S' p' (hJ _ _ _ _ j') fun h₁ tk v go => ?_
    refine wpAny_bind (go target ht _ _ fun h₂ rv p₁ C₁ => ?_)
    obtain ⟨S₁, K₁⟩ := S'.uns (t := tk) (h₀ := h₀) (H₀ := H₀) (I.obj i _ p') nH' nB C₁ (fun b hb => .inr ((I.obj (i + 1) h₂ p₁ b hb).elim fun o qq1 => qq1.elim fun e _ => ⟨o, e⟩))
    have K₁ := K₁ K' n0
    have A₁ := accK h₂ C₁
    refine wpAny_bind (wpAny_mono (turn i ys' m' H' hlt j' _ v S₁ rv) (fun _ s₂ yy => yy.elim fun _ m₂ H₂ _ S₂ K₂ q₂ => ?_) fun e s₂ x => err e s₂ (x.after K₁))
    have K₂' := K₁.trans K₂
    have A₂ := A₁.keep S₁ K₂
    obtain ⟨p₂, nH₂⟩ := iter_keep I S₁ p₁ K₂ nH' nm
    refine wpAny_bind (wpAny_mono (q₂ s₂ S₂) (fun ok s₃ yy => yy.elim fun ok' m₃ H₃ r₃ S₃ K₃ q₃ => ?_) fun e s₃ x => err e s₃ (x.after K₂'))
    cases r₃
    have K₃' := K₂'.trans K₃
    have A₃ := A₂.keep S₂ K₃
    obtain ⟨p₃, nH₃⟩ := iter_keep I S₂ p₂ K₃ nH₂ nm
    cases ok with
    | false =>
      refine wpAny_pure ⟨rfl, n + 1 - (i + 1), less hlt, i + 1, ys', m₃, H₃, rfl, hlt, S₃, K₃', p₃, nH₃, A₃, q₃⟩
    | true =>
      have q₃ : WAcc g F acc tail ys' m₃ H₃ (fun ys m H => J (i + 1) ys m H) X := q₃
      have Bh : g.B.StaysIn (s₃.heap.hide acc) := fun b o e => (Heap.hide_ne _ (fun q => by subst q; rw [B0 _ _ e] at na; cases na)).trans (S₃.base b o e)
      refine wpAny_bind (wpAny_mono (q₃ (s₃.heap.hide acc) H₃ s₃ S₃ (.hide ..) (Heap.hide_self ..) Bh A₃) (fun _ s₄ qq1 => qq1.elim fun ys₄ qq2 => qq2.elim fun m₄ qq3 => qq3.elim fun H₄ qq4 => qq4.elim fun S₄ qq5 => qq5.elim fun K₄ qq6 => qq6.elim fun A₄ q₄ => ?_) fun e s₄ x => err e s₄ (x.unhide K₃' na))
      have st : ∀ b ∈ ws, s₄.heap.get? b = s₃.heap.get? b ∧ H₄ b = none := fun b hb => by
        obtain ⟨o, e, d⟩ := I.obj _ _ p₃ b hb
        obtain ⟨w1, w2⟩ := K₄.same b o ((Heap.hide_ne _ fun q => nia (by rw [← q]; exact hb)).trans e) (nH₃ b hb) (nm b hb)
        rcases w2 with w2 | ⟨w2, _⟩
        · exact ⟨w2.trans e.symm, w1⟩
        · obtain ⟨_, o', es, ep, e', d'⟩ := S₃.frd b w2
          rw [e] at e'; cases e'; exact absurd d' (d.nd _ _)
      have mn : Mono s₃.heap s₄.heap := by
        obtain ⟨vs₃, ep₃, ea₃, _⟩ := A₃.obj
        have na' : ∀ b o, (Imm b o ∨ ∃ es ep, o.data = .dict es ep) → s₃.heap.get? b = some o → b ≠ acc := fun b o i eb q => by
          subst q; rw [ea₃] at eb; cases eb
          rcases i with i | ⟨_, _, i⟩
          · have := i.cls; cases this
          · cases i
        refine ⟨fun b o i eb => ?_, fun b o es ep eb d => K₄.dct b o es ep ((Heap.hide_ne _ (na' b o (.inr ⟨_, _, d⟩) eb)).trans eb) d⟩
        obtain ⟨t1, t2, t3⟩ := S₃.tupFree i eb
        rcases (K₄.same b o ((Heap.hide_ne _ (na' b o (.inl i) eb)).trans eb) t1 t2).2 with z | ⟨z, _⟩
        · exact z
        · exact absurd z t3
      exact wpAny_pure ⟨rfl, n + 1 - (i + 1), less hlt, i + 1, ys₄, m₄, H₄, rfl, hlt, S₄, K₃'.unhide K₄ na, I.stay _ _ _ p₃ (fun b hb => (st b hb).1) mn, fun b hb => (st b hb).2, A₄, q₄⟩
  · have hin : i = n := Nat.le_antisymm hi (Nat.le_of_not_lt hlt)
    subst hin
    refine I.stop m' H' s' _ _ S' p' (hJ _ _ _ _ j') fun h₁ tk C₁ al => ?_
    obtain ⟨S₁, K₁⟩ := S'.uns (t := tk) (h₀ := h₀) (H₀ := H₀) (I.obj i _ p') nH' nB C₁ al
    have K₁ := K₁ K' n0
    exact wpAny_pure ⟨ys', m', H', S₁, K₁, accK h₁ C₁, j'⟩
end
end Mine
end
section
open PySem PySem.W PySem.Calls PyProof.Rows
set_option linter.unusedSectionVars false
set_option linter.unusedVariables false
namespace Mine
variable [ζ : Dead]
section
variable {g : G} {F : Fm} {m : Loc} {H : AH} {s : Shared} {X : Value → List V → Loc → AH → Prop}
structure CompHead (F : Fm) (scope : Scope) : Prop where
  kind : scope.kind = .function
  cell : ∀ y ∈ scope.names, y.2 = .cell → scope.names.lookup y.1 = some .cell
  names : ∀ x ∈ scope.names, x.2 = .local → scope.names.lookup x.1 = some .local
  free : ∀ x, scope.names.lookup x = some .free → (F.env.kindOf x = some .cell ∨ F.env.kindOf x = some .free) ∧ (x == ("__classdict__" : Str)) = false
  cells : ∀ n, (n, NameKind.free) ∈ scope.names → ∃ c, F.env.cells.lookup n = some c
noncomputable def Walk (g : G) (Fc : Fm) (acc : Addr) (target : Expr) (ifs : List Expr) (tail : Sem Unit) (a : V) (ys : List V) (m : Loc) (H : AH) (Q : List V → Loc → AH → Prop) (X : Value → List V → Loc → AH → Prop) : Prop :=
  ∃ (tg : Expr → Bool) (n : Nat) (val : Nat → V) (C : AH → Prop) (J : Nat → List V → Loc → AH → Prop), IterableT g tg a n val C ∧ tg target = true ∧ (∀ i ys m H, J i ys m H → C H) ∧ J 0 ys m H ∧
    (∀ i ys m H, i < n → J i ys m H → WA g Fc target (val i) m H (fun m H => WB g Fc (testsOf ifs Fc.env) m H (fun ok m H => if ok then WAcc g Fc acc tail ys m H (fun ys m H => J (i + 1) ys m H) X else J (i + 1) ys m H) X) X) ∧
    ∀ ys m H, J n ys m H → Q ys m H
theorem CompR.mono {Fc : Fm} {h₀ : Heap} {H₀ : AH} {acc : Addr} {Q Q' : List V → Loc → AH → Prop} {r : Result} {s' : Shared} (hq : ∀ ys m H, Q ys m H → Q' ys m H) (x : CompR g Fc h₀ H₀ acc Q X r s') : CompR g Fc h₀ H₀ acc Q' X r s' := by
  cases r with
  | ok f => obtain ⟨ys, m', H', a, b, c, d⟩ := x; exact ⟨ys, m', H', a, b, c, hq _ _ _ d⟩
  | error e => exact x
theorem comp_loops {elt : Expr} {target iter : Expr} {ifs : List Expr} {tail : Sem Unit} {gens : List Comprehension} {d : Nat} {scope : Scope} {pos : Pos} {acc : Addr} {a : V} {v : Value} {ys : List V} {Q : List V → Loc → AH → Prop} {h₀ : Heap} {H₀ : AH}
    (hct : ∀ it, compTurn (.ListComp elt gens scope pos) d it (.ref acc) F.env = turnTree target iter ifs it tail (.ListComp elt gens scope pos) d (.ref acc) F.env)
    (hh : F.A.handled = none) (hs : F.stack ≠ []) (w : Walk g F acc target ifs tail a ys m H Q X) (S : St g F m H s) (K : Keep F h₀ H₀ s.heap H) (B0 : g.B.StaysIn h₀) (na : h₀.get? acc = none) (A0 : AccAt F s.heap H acc ys) (r : VR s.heap a v) {E : Value → Shared → Prop} :
    wpAny (model g.prog g.w) F.A (pyIter v) (fun it s' => ∃ I, it = .ref I ∧ (∀ s'', s''.heap = s'.heap → s''.gens = s'.gens → s''.os = s'.os → codeAny (model g.prog g.w) F.A (.compLoop (.ListComp elt gens scope pos) d it (.ref acc) F.env) (CompR g F h₀ H₀ acc Q X) s'') ∧
      ∀ (Q' : Value → Shared → Prop) (E' : Value → Shared → Prop), Q' it s' → wpAny (model g.prog g.w) F.A (pyIter it) Q' E' s') E s := by
  obtain ⟨tg, n, val, C, J, I, ht, hJ, j, turn, fin⟩ := w
  refine I F m H s v S (hJ _ _ _ _ j) r _ _ fun o P hI hf p => ⟨_, rfl, fun s'' e1 e2 e3 => ?_, fun Q' E' q => (hI F hh).self 0 _ Q' E' p q⟩
  have C' : ∀ b o', s.heap.get? b = some o' → (s.heap.push o).get? b = some o' := fun _ _ e => Heap.get?_push_of_some o e
  obtain ⟨S₁, K₁⟩ := S.ext (t := s''.toks) C'
  have S₂ : St g F m H s'' := by
    have : s'' = { s with heap := s.heap.push o, toks := s''.toks, drawn := s''.drawn } := by
      obtain ⟨a1, a2, a3, a4, a5⟩ := s''; cases e1; cases e2; cases e3; rfl
    rw [this]
    exact ⟨S₁.base, S₁.obj, S₁.loc, S₁.locm, S₁.mine, S₁.frs, S₁.frd, S₁.frame, S₁.Afr, S₁.gens, S₁.os, S₁.room, S₁.envg, S₁.dead⟩
  have K₂ : Keep F h₀ H₀ s''.heap H := by rw [e1]; exact K.trans K₁
  have A₂ : AccAt F s''.heap H acc ys := by rw [e1]; exact A0.keep S K₁
  have ne : s.heap.objs.size ≠ acc := by obtain ⟨vs, ep, e, _⟩ := A0.obj; exact Nat.ne_of_gt (Heap.lt_size e)
  exact codeAny_mono (comp_core (hI F hh) ht (hct _) hs hJ turn S₂ K₂ B0 (by rw [e1]; exact p) (one K.fresh) (one (S.lt (Nat.le_refl _)).1) (one S.fresh) na (fun z => ne (List.mem_singleton.mp z).symm) A₂ j) fun _ _ x => x.mono fin
theorem acc_nest {elt : Expr} {t0 i0 target iter : Expr} {ifs0 ifs : List Expr} {scope : Scope} {pos : Pos} {acc : Addr} {ys : List V} {Q : List V → Loc → AH → Prop} (hh : F.A.handled = none) (hs : F.stack ≠ []) (hfs : ∀ x, foldedSetIterable iter F.env x = pure x)
    (hsz : ∀ tail, tail = (do let _ ← call (.builtin "list.append") [.ref acc, ← eval elt F.env] : Sem Unit) → WE g F (eval iter F.env) m H (fun a m H => Walk g F acc target ifs tail a ys m H Q X) X) :
    WAcc g F acc (do
      let x ← eval iter F.env
      standAt iter.pos
      let x ← foldedSetIterable iter F.env x
      let _ ← runOwn (.compStart (.ListComp elt [⟨t0, i0, ifs0, 0⟩, ⟨target, iter, ifs, 0⟩] scope pos) 1 (← holding [x] (pyIter x)) (.ref acc) F.env) F.env) ys m H Q X := fun h₀ H₀ s S K n0 B0 A0 => by
  refine wpAny_bind ((hsz _ rfl).run S (fun v s₁ a m₁ H₁ r₁ S₁ k₁ q₁ => ?_) fun e s' x => x.after K)
  have A₁ := A0.keep S k₁
  have K₁ := K.trans k₁
  refine wpAny_bind (wpAny_standAt (wpAny_bind (wpAny_of_eq (hfs v) (wpAny_bind (wpAny_holding (wpAny_mono (comp_loops (elt := elt) (iter := iter) (gens := [⟨t0, i0, ifs0, 0⟩, ⟨target, iter, ifs, 0⟩]) (d := 1) (scope := scope) (pos := pos) (fun it => rfl) hh hs q₁ S₁ K₁ B0 n0 A₁ r₁ (E := ErP g F X h₀ H₀)) (fun it s₂ qq1 => qq1.elim fun I qq2 => qq2.elim fun hI qq3 => qq3.elim fun hl hself => ?_) fun _ _ x => x))))))
  refine wpAny_bind (wpAny_runOwn (codeAny_mono (R := CompR g F h₀ H₀ acc Q X) ?_ fun r s' z => ?_))
  · have all : codeAny (model g.prog g.w) F.A (.compLoop (.ListComp elt [⟨t0, i0, ifs0, 0⟩, ⟨target, iter, ifs, 0⟩] scope pos) 1 it (.ref acc) F.env) (CompR g F h₀ H₀ acc Q X) s₂ := hl s₂ rfl rfl rfl
    refine codeAny_of_tree ?_
    show wpAny _ _ ((compStart (.ListComp elt [⟨t0, i0, ifs0, 0⟩, ⟨target, iter, ifs, 0⟩] scope pos) 1 it (.ref acc) F.env).onRaise (fun x => do noteFrame x F.env; standAt theWindowsPlace)) _ _ s₂
    refine wpAny_notedAt ?_
    show wpAny _ _ (ask >>= _) _ _ s₂
    refine wpAny_bind (wpAny_askSetting (wpAny_ite ?_))
    split
    · first
        | exact wpAny_bind (wpAny_pure (wpAny_pure (And.intro rfl all)))
        | exact wpAny_pure (And.intro rfl all)
    · first
        | exact wpAny_bind (wpAny_rule (wpAny_bind (wpAny_standAt (wpAny_bind (hself _ _ (wpAny_pure (And.intro rfl all)))))))
        | (refine wpAny_bind (wpAny_rule ?_); show wpAny _ _ (standAt iter.pos >>= _) _ _ s₂; exact wpAny_bind (wpAny_standAt (wpAny_bind (hself _ _ (wpAny_pure (And.intro rfl all))))))
  · cases r with
    | ok f => exact wpAny_pure z
    | error e =>
      obtain ⟨c, as, m', H', S', K', f', q'⟩ := z
      exact cameBack B0 S' K' f' q'
noncomputable def Walk0 (g : G) (F : Fm) (scope : Scope) (target : Expr) (ifs : List Expr) (tail : Fm → Addr → Sem Unit) (a : V) (m : Loc) (H : AH) (Q : List V → AH → Prop) (X : Value → List V → Loc → AH → Prop) : Prop :=
  ∃ (tg : Expr → Bool) (n : Nat) (val : Nat → V) (C : AH → Prop) (J : Nat → List V → Loc → AH → Prop), IterableT g tg a n val C ∧ tg target = true ∧ (∀ i ys m H, J i ys m H → C H) ∧ J 0 [] (compLoc scope m) H ∧
    (∀ Fc acc, CompOf Fc F scope → ∀ i ys m H, i < n → J i ys m H → WA g Fc target (val i) m H (fun m H => WB g Fc (testsOf ifs Fc.env) m H (fun ok m H => if ok then WAcc g Fc acc (tail Fc acc) ys m H (fun ys m H => J (i + 1) ys m H) X else J (i + 1) ys m H) X) X) ∧
    ∀ ys m H, J n ys m H → Q ys H
structure Nobody (g : G) (F : Fm) (h : Heap) (H' : AH) (a : Addr) : Prop where
  new : h.get? a = none
  base : g.B.get? a = none
  un : H' a = none
  mine : a ∉ F.mine
  fr : a ∉ F.fr
  cell : ∀ y, F.env.cells.lookup y ≠ some a
theorem St.nobody {a : Addr} {H' : AH} (S : St g F m H s) (n : s.heap.objs.size ≤ a) (u : H' a = none) : Nobody g F s.heap H' a := by
  obtain ⟨n1, n2, n3⟩ := S.lt n
  have ne : ∀ b o, s.heap.get? b = some o → b ≠ a := fun b o e q => by subst q; rw [n3] at e; cases e
  refine ⟨n3, n2, u, fun q => ?_, fun q => ?_, fun y hy => ?_⟩
  · obtain ⟨_, _, o, e, _⟩ := S.mine a q; exact ne a o e rfl
  · obtain ⟨_, o, _, _, e, _⟩ := S.frd a q; exact ne a o e rfl
  · obtain ⟨_, v, o, e, _⟩ := S.loc.cell y a hy; exact ne a o e rfl
noncomputable def CPost (M : Model) (A : Around) (E : Value → Shared → Prop) (use : Option (Value → Sem Unit)) (Q : Value → Shared → Prop) (acc : Value) (C : Addr) (r : Result) (s' : Shared) : Prop :=
  match r, use with
  | .ok _, none => ∃ mc, s'.heap.Ns C mc ∧ ∀ h' mc', h'.Ns C mc' → Heap.SameBut C s'.heap h' → Q acc { s' with heap := h' }
  | .ok _, some u => wpAny M A (u acc) (fun _ s'' => ∃ mc, s''.heap.Ns C mc ∧ ∀ h' mc', h'.Ns C mc' → Heap.SameBut C s''.heap h' → Q .none { s'' with heap := h' }) E s'
  | .error x, _ => ∃ mc, s'.heap.Ns C mc ∧ ∀ h' mc', h'.Ns C mc' → Heap.SameBut C s'.heap h' → ∀ cenv : Env, wpAny M A (PySem.passOn "comprehension.variables-let-go" x cenv : Sem Value) (fun _ _ => False) E { s' with heap := h' }
theorem comp_open {M : Model} {A : Around} {env : Env} {e : Expr} {scope : Scope} {pos : Pos} {newAcc first : Sem Value} {c0 : Comprehension} {gs : List Comprehension} {cl : List (Str × Addr)} {use : Option (Value → Sem Unit)} {Q : Value → Shared → Prop} {E : Value → Shared → Prop}
    (hcl : clausesOf e = c0 :: gs) (hs : ∀ x, foldedSetIterable c0.iter env x = pure x) (hclos : closureFor scope env = pure cl) (hkind : scope.kind = .function) (hnames : ∀ x ∈ scope.names, x.2 = .local → scope.names.lookup x.1 = some .local)
    (h : wpAny M A first (fun x s₁ => wpAny M A (pyIter x) (fun it s₂ => wpAny M A newAcc (fun acc s₃ => wpAny M A (newFunctionEnv scope env.globals cl [] env.qual none .none (some env)) (fun cenv s₄ =>
      codeAny M A (.compStart e 0 it acc { cenv with scope := relabel scope env }) (CPost M A E use Q acc cenv.locals) s₄) E s₃) E s₂) E s₁) E s) :
    wpAny M A (comprehension e scope env pos newAcc false first use) Q E s := by
  unfold comprehension
  rw [hclos, hcl]
  refine wpAny_bind (wpAny_mono h (fun x s₁ h₁ => ?_) fun _ _ y => y)
  refine wpAny_bind (wpAny_standAt (wpAny_bind (wpAny_of_eq (hs x) (wpAny_bind (wpAny_holding (wpAny_mono h₁ (fun it s₂ h₂ => ?_) fun _ _ y => y))))))
  refine wpAny_standIf (wpAny_bind (wpAny_mono h₂ (fun acc s₃ h₃ => wpAny_bind (wpAny_pure (wpAny_bind (wpAny_mono h₃ (fun cenv s₄ h₄ => ?_) fun _ _ y => y)))) fun _ _ y => y))
  dsimp only
  have own : ∀ l : List (Str × NameKind), (∀ x ∈ l, x ∈ (scope.names.filter fun x => (x.2 == .local || x.2 == .cell) && x.1 != (".0" : Str)).reverse) → ∀ x ∈ l, x.2 = .local → Env.kindOf { cenv with scope := relabel scope env } x.1 = some .local :=
    fun l hl x hx q => lookup_relabel_local (hnames x (List.mem_filter.mp (List.mem_reverse.mp (hl x hx))).1 q)
  refine wpAny_holding (wpAny_bind (wpAny_attempt (wpAny_holding (wpAny_run (codeAny_mono h₄ fun r s' z => ?_)))))
  cases r with
  | ok f =>
    cases use with
    | none =>
      obtain ⟨mc, hn, z⟩ := z
      exact wpAny_bind (wpAny_holding (wpAny_comp_letGo (cenv := { cenv with scope := relabel scope env }) hkind _ s' mc (own _ fun _ q => q) hn fun h' mc' hn' hs' => wpAny_pure (z h' mc' hn' hs')))
    | some u =>
      refine wpAny_bind (wpAny_rule (wpAny_bind (wpAny_holding (wpAny_mono z (fun _ s'' z' => ?_) fun _ _ y => y))))
      obtain ⟨mc, hn, z'⟩ := z'
      refine wpAny_bind (wpAny_comp_letGo (cenv := { cenv with scope := relabel scope env }) hkind _ s'' mc (own _ fun x q => ?_) hn fun h' mc' hn' hs' => wpAny_pure (z' h' mc' hn' hs'))
      rcases List.mem_append.mp q with q | q
      · exact List.mem_of_mem_drop q
      · exact List.mem_of_mem_take q
  | error x =>
    have z' : ∃ mc, s'.heap.Ns cenv.locals mc ∧ ∀ h' mc', h'.Ns cenv.locals mc' → Heap.SameBut cenv.locals s'.heap h' → ∀ cenv' : Env, wpAny M A (PySem.passOn "comprehension.variables-let-go" x cenv' : Sem Value) (fun _ _ => False) E { s' with heap := h' } := by cases use <;> exact z
    obtain ⟨mc, hn, z'⟩ := z'
    exact wpAny_bind (wpAny_holding (wpAny_comp_letGo (cenv := { cenv with scope := relabel scope env }) hkind _ s' mc (own _ fun _ q => q) hn fun h' mc' hn' hs' => wpAny_mono (z' h' mc' hn' hs' _) (fun _ _ yy => yy.elim) fun _ _ y => y))
theorem wp_newEnvC {M : Model} {A : Around} {E : Value → Shared → Prop} {s : Shared} {scope : Scope} {globals : Addr} {cl : List (Str × Addr)} {qual : Str} {func : Option Addr} {code : Value} {outer : Env} {builtins : Addr} {Q : Env → Shared → Prop}
    (hQ : ∀ h', h'.Ns s.heap.objs.size (fun _ => none) → (∀ b o, s.heap.get? b = some o → h'.get? b = some o) → CellsOk h' (s.heap.objs.size + 1) (newC scope s.heap.objs.size) →
      Q (newEnv scope s.heap.objs.size globals (newC scope s.heap.objs.size ++ cl) qual func code (some outer) builtins) { s with heap := h' }) :
    wpAny M A (newFunctionEnv scope globals cl [] qual func code (some outer) builtins) Q E s := by
  simp only [newFunctionEnv, Option.isSome_some, if_true]
  refine wpAny_bind (wpAny_alloc ?_)
  refine wpAny_bind (wpAny_layCells _ (fun name kind cells => by cases hkc : kind == NameKind.cell <;> simp [hkc]) _ _ _ _ ?_)
  have ok := cellsFrom_ok scope.names (s.heap.push { cls := .type "dict", data := .dict #[] }) (s.heap.objs.size + 1) [] ⟨fun _ _ hm => (nomatch hm), List.Pairwise.nil⟩ (by rw [Heap.size_push]; exact Nat.le_refl _)
  rw [Heap.size_push] at ok
  rw [show ({ s with heap := s.heap.push { cls := .type "dict", data := .dict #[] } } : Shared).heap.objs.size = s.heap.objs.size + 1 from Heap.size_push .., cellsFrom_app]
  exact wpAny_bind (wpAny_pure (wpAny_pure (hQ _ ((Heap.Ns.new s.heap (.type "dict")).keeps (pushCells_keeps _ _)) (fun b o e => pushCells_keeps _ _ b o (Heap.get?_push_of_some _ e)) ok)))
noncomputable def Less (ζ₁ ζ₂ : Dead) : Prop := ∀ a ∈ ζ₁.bad, a ∈ ζ₂.bad
omit ζ in
theorem Less.imm {ζ₁ ζ₂ : Dead} (l : Less ζ₁ ζ₂) {a : Addr} {o : Obj} (i : @Imm ζ₂ a o) : @Imm ζ₁ a o := by
  cases i with
  | tup vs ep h => exact @Imm.tup ζ₁ a vs ep fun z => h (l a z)
  | rng => exact @Imm.rng ζ₁ a ..
  | view c d h => exact @Imm.view ζ₁ a c d h
omit ζ in
theorem Less.st {ζ₁ ζ₂ : Dead} {g : G} {F : Fm} {m : Loc} {H : AH} {s : Shared} (l : Less ζ₁ ζ₂) (S : @St ζ₂ g F m H s) : @St ζ₁ g F m H s :=
  St.shift (t := s.toks) S (fun _ _ e => e) (fun _ _ i _ => l.imm i) fun a h => @St.dead ζ₂ _ _ _ _ _ S a (l a h)
omit ζ in
theorem Less.vr {ζ₁ ζ₂ : Dead} {h : Heap} {x : V} {v : Value} (l : Less ζ₁ ζ₂) (r : @VR ζ₂ h x v) : @VR ζ₁ h x v := VR.shift (fun _ _ _ e => e) (fun _ _ i _ => l.imm i) _ _ r
omit ζ in
theorem Less.vrs {ζ₁ ζ₂ : Dead} {h : Heap} {x : List V} {v : List Value} (l : Less ζ₁ ζ₂) (r : @VRs ζ₂ h x v) : @VRs ζ₁ h x v := VRs.shift (fun _ _ _ e => e) (fun _ _ i _ => l.imm i) _ _ r
structure HeadI (ζ₂ : Dz) (g : G) (F : Fm) (scope : Scope) (target : Expr) (ifs : List Expr) (tail : Fm → Addr → Sem Unit) (h₀ : Heap) (H₀ : AH) (Qy : List V → Loc → AH → Prop) (X : Value → List V → Loc → AH → Prop) (s₃ : Shared)
    (s₁ : Shared) (m₁ : Loc) (H₁ : AH) (I : Addr) (ws : List Addr) (P : Nat → Heap → Prop) (n : Nat) (val : Nat → V) (C : AH → Prop) (J : Nat → List V → Loc → AH → Prop) (tg : Expr → Bool) : Prop where
  S₁ : St g F m₁ H₁ s₁
  k₁ : Keep F h₀ H₀ s₁.heap H₁
  kp : ∀ b o, s₁.heap.get? b = some o → s₃.heap.get? b = some o
  S₃ : @St ζ₂ g F m₁ H₁ s₃
  new : ∀ b ∈ ws, s₁.heap.objs.size ≤ b ∧ b < s₃.heap.objs.size
  big : s₁.heap.objs.size ≤ s₃.heap.objs.size
  it : ∀ F' : Fm, F'.A.handled = none → @Iter ζ₂ g F' I ws P C n val tg
  ht : tg target = true
  p : P 0 s₃.heap
  hJ : ∀ i ys m H, J i ys m H → C H
  j : J 0 [] (compLoc scope m₁) H₁
  turn : ∀ Fc acc, CompOf Fc F scope → ∀ i ys m H, i < n → J i ys m H → @WA ζ₂ g Fc target (val i) m H (fun m H => @WB ζ₂ g Fc (testsOf ifs Fc.env) m H (fun ok m H => if ok then @WAcc ζ₂ g Fc acc (tail Fc acc) ys m H (fun ys m H => J (i + 1) ys m H) (fun c as _ H => X c as m₁ H) else J (i + 1) ys m H) (fun c as _ H => X c as m₁ H)) (fun c as _ H => X c as m₁ H)
  fin : ∀ ys m H, J n ys m H → Qy ys m₁ H
noncomputable def Headed (g : G) (F : Fm) (scope : Scope) (target : Expr) (ifs : List Expr) (tail : Fm → Addr → Sem Unit) (h₀ : Heap) (H₀ : AH) (Qy : List V → Loc → AH → Prop) (X : Value → List V → Loc → AH → Prop) (it : Value) (s₃ : Shared) : Prop :=
  ∃ (ζ₂ : Dz) (s₁ : Shared) (m₁ : Loc) (H₁ : AH) (I : Addr) (ws : List Addr) (P : Nat → Heap → Prop) (n : Nat) (val : Nat → V) (C : AH → Prop) (J : Nat → List V → Loc → AH → Prop) (tg : Expr → Bool), Less ζ ζ₂ ∧ it = .ref I ∧ HeadI ζ₂ g F scope target ifs tail h₀ H₀ Qy X s₃ s₁ m₁ H₁ I ws P n val C J tg
theorem headed_of {target iter : Expr} {ifs : List Expr} {tail : Fm → Addr → Sem Unit} {scope : Scope} {Qy : List V → Loc → AH → Prop} (S : St g F m H s)
    (h : WE g F (eval iter F.env) m H (fun a m H => Walk0 g F scope target ifs tail a m H (fun ys H => Qy ys m H) (fun c as _ H => X c as m H)) X) :
    wpAny (model g.prog g.w) F.A (eval iter F.env) (fun v s₂ => wpAny (model g.prog g.w) F.A (pyIter v) (fun it s₃ => Headed g F scope target ifs tail s.heap H Qy X it s₃) (ErP g F X s.heap H) s₂) (ErP g F X s.heap H) s := by
  refine h.run S (fun v s₁ a m₁ H₁ r₁ S₁ k₁ w => ?_) fun _ _ x => x
  obtain ⟨tg, n, val, C, J, I, ht, hJ, j, turn, fin⟩ := w
  refine I F m₁ H₁ s₁ v S₁ (hJ _ _ _ _ j) r₁ _ _ fun o P hI hf p => ?_
  have C₂ : ∀ b o', s₁.heap.get? b = some o' → (s₁.heap.push o).get? b = some o' := fun _ _ e => Heap.get?_push_of_some o e
  obtain ⟨S₂, K₂⟩ := S₁.ext (t := s₁.toks) C₂
  refine ⟨ζ, s₁, m₁, H₁, _, _, P, n, val, C, J, tg, fun _ z => z, rfl, S₁, k₁, C₂, S₂, one ⟨Nat.le_refl _, ?_⟩, ?_, hI, ht, p, hJ, j, turn, fin⟩
  · show _ < (s₁.heap.push o).objs.size; rw [Heap.size_push]; exact Nat.lt_succ_self _
  · show _ ≤ (s₁.heap.push o).objs.size; rw [Heap.size_push]; exact Nat.le_succ _
theorem comp_frame {elt target iter : Expr} {ifs : List Expr} {tail : Fm → Addr → Sem Unit} {rest : List Comprehension} {scope : Scope} {pos ipos : Pos} {use : Option (Value → Sem Unit)} {Q : Value → Shared → Prop} {Qy : List V → Loc → AH → Prop}
    (hd : CompHead F scope) (hfs : ∀ x, foldedSetIterable iter F.env x = pure x) (hh : F.A.handled = none) (hs : F.stack ≠ [])
    (hct : ∀ Fc acc it, compTurn (.ListComp elt (⟨target, iter, ifs, 0⟩ :: rest) scope pos) 0 it (.ref acc) Fc.env = turnTree target iter ifs it (tail Fc acc) (.ListComp elt (⟨target, iter, ifs, 0⟩ :: rest) scope pos) 0 (.ref acc) Fc.env)
    (S : St g F m H s)
    (h : wpAny (model g.prog g.w) F.A (eval iter F.env) (fun v s₂ => wpAny (model g.prog g.w) F.A (pyIter v) (fun it s₃ => Headed g F scope target ifs tail s.heap H Qy X it s₃) (ErP g F X s.heap H) s₂) (ErP g F X s.heap H) s)
    (hq : ∀ acc C s' ys m' H', St g F m' H' s' → Keep F s.heap H s'.heap H' → Nobody g F s.heap H' acc → OH g s'.heap acc (.list ys) → Qy ys m' H' → Nobody g F s.heap H' C → C ≠ acc → (∃ mc, s'.heap.Ns C mc) →
      (∀ h' t m'' H'' s'', St g F m'' H'' s'' → Keep F s.heap H s''.heap H'' → H'' C = none → (∃ mc, s''.heap.Ns C mc) → (∃ mc, h'.Ns C mc) → Heap.SameBut C s''.heap h' → St g F m'' H'' { s'' with heap := h', toks := t } ∧ Keep F s.heap H h' H'') →
      CPost (model g.prog g.w) F.A (ErP g F X s.heap H) use Q (.ref acc) C (.ok .next) s') :
    wpAny (model g.prog g.w) F.A (comprehension (.ListComp elt (⟨target, iter, ifs, 0⟩ :: rest) scope pos) scope F.env ipos (newList []) false (eval iter F.env) use) Q (ErP g F X s.heap H) s := by
  obtain ⟨cl, hcl, hcl1, hcl2⟩ := closureFor_is hd.cells
  refine comp_open (c0 := ⟨target, iter, ifs, 0⟩) (gs := rest) rfl hfs hcl hd.kind hd.names (wpAny_mono h (fun v s₂ h₂ => wpAny_mono h₂ (fun it s₃ w => ?_) fun _ _ x => x) fun _ _ x => x)
  obtain ⟨ζ₂, s₁, m₁, H₁, I, ws, P, n, val, C, J, tg, lz, rfl, w⟩ := w
  have S₁ := w.S₁
  have k₁ := w.k₁
  refine wpAny_newObj_type ?_
  have C₃ : ∀ b o', s₃.heap.get? b = some o' → (s₃.heap.push (lstObj [] 0)).get? b = some o' := fun _ _ e => Heap.get?_push_of_some _ e
  obtain ⟨S₄, _⟩ := @St.ext ζ₂ _ _ _ _ _ _ s₃.toks w.S₃ C₃
  refine wp_newEnvC fun h₄ hns kp ok => ?_
  dsimp only at hns kp ok ⊢
  obtain ⟨S₅, hFc⟩ := @St.enterComp ζ₂ _ _ _ _ _ _ cl h₄ s₃.toks S₄ hd.kind kp hns ok hd.cell hcl1 hcl2 hd.free
  have szC : (s₃.heap.push (lstObj [] 0)).objs.size = s₃.heap.objs.size + 1 := by rw [Heap.size_push]
  have leA : s₁.heap.objs.size ≤ s₃.heap.objs.size := w.big
  have leC : s₁.heap.objs.size ≤ (s₃.heap.push (lstObj [] 0)).objs.size := by rw [szC]; exact Nat.le_succ_of_le leA
  have neAC : s₃.heap.objs.size ≠ (s₃.heap.push (lstObj [] 0)).objs.size := by rw [szC]; exact Nat.ne_of_lt (Nat.lt_succ_self _)
  have ltAC : ¬ (s₃.heap.push (lstObj [] 0)).objs.size ≤ s₃.heap.objs.size := by rw [szC]; exact Nat.not_le.mpr (Nat.lt_succ_self _)
  have ltIC : ∀ b ∈ ws, ¬ (s₃.heap.push (lstObj [] 0)).objs.size ≤ b := fun b hb => by rw [szC]; exact Nat.not_le.mpr (Nat.lt_succ_of_lt (w.new b hb).2)
  have nia : s₃.heap.objs.size ∉ ws := fun z => absurd (w.new _ z).2 (Nat.lt_irrefl _)
  have kp3 : ∀ b o', s₃.heap.get? b = some o' → h₄.get? b = some o' := fun b o' e => kp b o' (C₃ b o' e)
  have kp1 : ∀ b o', s₁.heap.get? b = some o' → h₄.get? b = some o' := fun b o' e => kp3 b o' (w.kp b o' e)
  have K₄ : Keep (F.comp scope cl (s₃.heap.push (lstObj [] 0)).objs.size) s₁.heap H₁ h₄ H₁ := ⟨fun b o' e => ⟨o', kp1 b o' e⟩, .ext kp1, fun b o' e n _ => ⟨n, .inl (kp1 b o' e)⟩⟩
  have p₄ : P 0 h₄ := @Iter.stay ζ₂ _ _ _ _ _ _ _ _ _ (w.it F hh) 0 _ _ w.p (fun b hb => by
    obtain ⟨o', e, _⟩ := @Iter.obj ζ₂ _ _ _ _ _ _ _ _ _ (w.it F hh) 0 _ w.p b hb
    exact (kp3 b o' e).trans e.symm) (@Mono.mk ζ₂ _ _ (fun b o' _ e => kp3 b o' e) (.ext kp3))
  have Aacc : @AccAt ζ₂ (F.comp scope cl (s₃.heap.push (lstObj [] 0)).objs.size) h₄ H₁ s₃.heap.objs.size [] :=
    @AccAt.mk ζ₂ _ _ _ _ _ ⟨[], 0, kp _ _ (Heap.get?_push_size _ rfl), @VRs.nil' ζ₂ _⟩ (S₁.lt leA).1 (fun q => ltAC (comp_mine q))
  have core := @comp_core ζ₂ g (F.comp scope cl (s₃.heap.push (lstObj [] 0)).objs.size) (compLoc scope m₁) H₁ { s₃ with heap := h₄, toks := s₃.toks } s₁.heap H₁ (fun c as _ H => X c as m₁ H) I s₃.heap.objs.size ws P C n 0 val tg target iter elt ifs (tail (F.comp scope cl (s₃.heap.push (lstObj [] 0)).objs.size) s₃.heap.objs.size) (⟨target, iter, ifs, 0⟩ :: rest) scope pos [] J (w.it _ (by show F.A.handled = none; exact hh)) w.ht
    (hct (F.comp scope cl (s₃.heap.push (lstObj [] 0)).objs.size) s₃.heap.objs.size (.ref I)) (by show F.stack ≠ []; exact hs) w.hJ (w.turn _ _ hFc) S₅ K₄ S₁.base p₄
    (fun b hb => (S₁.lt (w.new b hb).1).2.2) (fun b hb => (S₁.lt (w.new b hb).1).1) (fun b hb q => ltIC b hb (comp_mine q)) (S₁.lt leA).2.2 nia Aacc w.j
  have core' : codeAny (model g.prog g.w) F.A (.compLoop (.ListComp elt (⟨target, iter, ifs, 0⟩ :: rest) scope pos) 0 (.ref I) (.ref s₃.heap.objs.size) (F.comp scope cl (s₃.heap.push (lstObj [] 0)).objs.size).env)
      (CPost (model g.prog g.w) F.A (ErP g F X s.heap H) use Q (.ref s₃.heap.objs.size) (s₃.heap.push (lstObj [] 0)).objs.size) { s₃ with heap := h₄, toks := s₃.toks } := by
    refine codeAny_mono core fun r s' z => ?_
    have since : ∀ b, s₁.heap.get? b = none → s.heap.get? b = none := fun b e => by
      cases q : s.heap.get? b with
      | none => rfl
      | some o' => obtain ⟨o'', z⟩ := k₁.alive b o' q; rw [e] at z; cases z
    have off : ∀ h' t m'' H'' s'', St g F m'' H'' s'' → Keep F s.heap H s''.heap H'' → H'' (s₃.heap.push (lstObj [] 0)).objs.size = none → (∃ mc, s''.heap.Ns (s₃.heap.push (lstObj [] 0)).objs.size mc) → (∃ mc, h'.Ns (s₃.heap.push (lstObj [] 0)).objs.size mc) →
        Heap.SameBut (s₃.heap.push (lstObj [] 0)).objs.size s''.heap h' → St g F m'' H'' { s'' with heap := h', toks := t } ∧ Keep F s.heap H h' H'' := by
      intro h' t m'' H'' s'' T k u ⟨mc, oC, esC, epC, eC, dC, _⟩ ⟨mc', oC', esC', epC', eC', dC', _⟩ hsb'
      have nb := S₁.nobody leC u
      obtain ⟨T', k'⟩ := T.off (t := t) (h₀ := s.heap) (H₀ := H) (fun c o' e n => (hsb'.2 c n).trans e) u nb.base nb.mine nb.fr nb.cell (fun o' e i => by rw [eC] at e; cases e; exact i.data.1 _ _ dC) (fun o' es ep e d => ⟨oC', esC', epC', eC', dC'⟩) ⟨_, eC'⟩
      exact ⟨T', k' k (since _ nb.new)⟩
    cases r with
    | ok f =>
      obtain ⟨ys, m', H', S', K', A', q'⟩ := z
      have S' := lz.st S'
      obtain ⟨S₅, K₅⟩ := S₁.backComp (fun _ _ e => e) leC S' K'
      obtain ⟨vs, ep, ea, ra⟩ := @AccAt.obj ζ₂ _ _ _ _ _ A'
      have ra := lz.vrs ra
      have nbA := S₁.nobody leA (@AccAt.un ζ₂ _ _ _ _ _ A')
      have nbC := S₁.nobody leC (S'.mine _ List.mem_cons_self).1
      have := hq s₃.heap.objs.size (s₃.heap.push (lstObj [] 0)).objs.size s' ys m₁ H' S₅ (k₁.trans K₅) ⟨since _ nbA.new, nbA.base, nbA.un, nbA.mine, nbA.fr, nbA.cell⟩ ⟨vs, ep, ea, ra⟩ (w.fin ys m' H' q')
        ⟨since _ nbC.new, nbC.base, nbC.un, nbC.mine, nbC.fr, nbC.cell⟩ (Ne.symm neAC) ((S'.loc.val).elim fun mr qq1 => qq1.elim fun hn _ => ⟨mr, hn⟩) off
      cases use <;> exact this
    | error e =>
      obtain ⟨c, as, m', H', S', K', f', q'⟩ := z
      have S' := lz.st S'
      obtain ⟨S₅, K₅⟩ := S₁.backComp (fun _ _ e => e) leC S' K'
      obtain ⟨mr, hn, _⟩ := S'.loc.val
      have K₅' := k₁.trans K₅
      have f'' : FlyT s.heap e c as s'.heap H' := by
        obtain ⟨a, o, vs, v, T, oT, ts, x, y⟩ := f'
        obtain ⟨h1, h2, h3, h4, h5, h6, h7, h8, h9, h10⟩ := y
        exact ⟨a, o, vs, v, T, oT, ts, x, h1, since _ h2, h3, h4, h5, h6, h7, h8, lz.vr h9, h10.q1, h10.q2, since _ h10.q3, h10.q4, h10.q5, h10.q6, h10.q7, h10.q8⟩
      have fin' : ∃ mc, s'.heap.Ns (s₃.heap.push (lstObj [] 0)).objs.size mc ∧ ∀ h' mc', h'.Ns (s₃.heap.push (lstObj [] 0)).objs.size mc' → Heap.SameBut (s₃.heap.push (lstObj [] 0)).objs.size s'.heap h' → ∀ cenv : Env, wpAny (model g.prog g.w) F.A (PySem.passOn "comprehension.variables-let-go" e cenv : Sem Value) (fun _ _ => False) (ErP g F X s.heap H) { s' with heap := h' } := by
        refine ⟨mr, hn, fun h' mc' hmc' hsb' cenv => ?_⟩
        obtain ⟨S₆, K₆⟩ := off h' s'.toks m₁ H' s' S₅ K₅' (S'.mine _ List.mem_cons_self).1 ⟨mr, hn⟩ ⟨mc', hmc'⟩ hsb'
        have f₆ : FlyT s.heap e c as h' H' := by
          obtain ⟨oL, esL, epL, eL, dL, _⟩ := id hn
          obtain ⟨a, oe, vs, v, T, oT, ts, x, h1, h2, h3, h4, h5, h6, h7, h8, h9, t1, t2, t3, t4, t5, t6, t7, t8⟩ := f''
          have ne : ∀ b o' vs, s'.heap.get? b = some o' → o'.data = .fields vs → b ≠ (s₃.heap.push (lstObj [] 0)).objs.size := fun b o' vs e d q => by
            have eL : s'.heap.get? (s₃.heap.push (lstObj [] 0)).objs.size = some oL := eL
            subst q; rw [eL] at e; cases e; rw [dL] at d; cases d
          refine ⟨a, oe, vs, v, T, oT, ts, x, h1, h2, h3, (hsb'.2 a (ne a oe vs h4 h7)).trans h4, h5, h6, h7, h8, ?_, t1, t2, t3, t4, (hsb'.2 T (ne T oT ts t5 t7)).trans t5, t6, t7, t8⟩
          refine h9.mono fun b ob i eb => (hsb'.2 b fun q => ?_).trans eb
          have eL : s'.heap.get? (s₃.heap.push (lstObj [] 0)).objs.size = some oL := eL
          subst q; rw [eL] at eb; cases eb; exact i.data.1 _ _ dL
        have f₆' := f₆
        obtain ⟨a, oe, vs, v, T, oT, ts, x, rfl, h2, h3, h4, h5, h6, h7, h8, h9, t1, t2, t3, t4, t5, t6, t7, t8⟩ := f₆
        refine wpAny_bind (wpAny_field h4 h7 t1 ?_)
        rw [if_neg (show ¬ ((Value.ref T == Value.none) = true) from by simp)]
        refine wpAny_bind (flight S₆ K₆ S.base f₆' fun s₇ S₇ K₇ f₇ => wpAny_throw ⟨c, as, m₁, H', f₇.fly, S₇, K₇, q'⟩)
      cases use <;> exact fin'
  exact codeAny_compStart_list core' (@Iter.self ζ₂ _ _ _ _ _ _ _ _ _ (w.it F hh) 0 _ _ _ p₄ core')
end
end Mine
end
section
open PySem PySem.W PySem.Calls PyProof.Rows
set_option linter.unusedSectionVars false
set_option linter.unusedVariables false
namespace Mine
variable [ζ : Dead]
section
variable {g : G} {F : Fm} {m : Loc} {H : AH} {s : Shared} {X : Value → List V → Loc → AH → Prop}
theorem St.trackN {a : Addr} {ys : List V} {h₀ : Heap} {H₀ : AH} (S : St g F m H s) (K : Keep F h₀ H₀ s.heap H) (nb : Nobody g F h₀ H a) (hn : OH g s.heap a (.list ys)) : St g F m (put H a (.list ys)) s ∧ Keep F h₀ H₀ s.heap (put H a (.list ys)) :=
  S.track K nb.new nb.base nb.un nb.mine nb.fr nb.cell hn
theorem e_comp {elt target iter : Expr} {ifs : List Expr} {tail : Fm → Addr → Sem Unit} {rest : List Comprehension} {scope : Scope} {pos : Pos} {Q : V → Loc → AH → Prop}
    (hd : CompHead F scope) (hfs : ∀ x, foldedSetIterable iter F.env x = pure x) (hh : F.A.handled = none) (hs : F.stack ≠ [])
    (hct : ∀ Fc acc it, compTurn (.ListComp elt (⟨target, iter, ifs, 0⟩ :: rest) scope pos) 0 it (.ref acc) Fc.env = turnTree target iter ifs it (tail Fc acc) (.ListComp elt (⟨target, iter, ifs, 0⟩ :: rest) scope pos) 0 (.ref acc) Fc.env)
    (h : WE g F (eval iter F.env) m H (fun a m H => Walk0 g F scope target ifs tail a m H (fun ys H => ∀ b, H b = none → Q (.ref b) m (put H b (.list ys))) (fun c as _ H => X c as m H)) X) :
    WE g F (eval (.ListComp elt (⟨target, iter, ifs, 0⟩ :: rest) scope pos) F.env) m H Q X := fun s S => by
  rw [eval_ListComp]
  refine comp_frame (use := none) (Qy := fun ys m H => ∀ b, H b = none → Q (.ref b) m (put H b (.list ys))) hd hfs hh hs hct S (headed_of S h) fun acc C s' ys m' H' S' K' nA oA q nC ne qq1 off => qq1.elim fun mc hn => ⟨mc, hn, fun h' mc' hn' hsb => ?_⟩
  obtain ⟨S₁, K₁⟩ := off h' s'.toks m' H' s' S' K' nC.un ⟨mc, hn⟩ ⟨mc', hn'⟩ hsb
  have oA' : OH g h' acc (.list ys) := by
    obtain ⟨vs, ep, e, r⟩ := oA
    obtain ⟨oC, es, epC, eC, dC, _⟩ := hn
    exact ⟨vs, ep, (hsb.2 acc (Ne.symm ne)).trans e, r.mono fun b o i eb => (hsb.2 b fun z => by subst z; rw [eC] at eb; cases eb; exact i.data.1 _ _ dC).trans eb⟩
  obtain ⟨S₂, K₂⟩ := S₁.trackN K₁ nA oA'
  exact ⟨.ref acc, m', _, .ref' acc, S₂, K₂, q acc nA.un⟩
theorem s_comp {elt target iter : Expr} {ifs : List Expr} {tail : Fm → Addr → Sem Unit} {rest : List Comprehension} {scope : Scope} {pos spos : Pos} {x : Str} {px : Pos} {Q : Fl → Loc → AH → Prop}
    (hsw : swapsWith (.ListComp elt (⟨target, iter, ifs, 0⟩ :: rest) scope pos) (some (.Name x px)) spos.line F.env = pure true) (hx : Stores F x)
    (hd : CompHead F scope) (hfs : ∀ x, foldedSetIterable iter F.env x = pure x) (hh : F.A.handled = none) (hs : F.stack ≠ [])
    (hct : ∀ Fc acc it, compTurn (.ListComp elt (⟨target, iter, ifs, 0⟩ :: rest) scope pos) 0 it (.ref acc) Fc.env = turnTree target iter ifs it (tail Fc acc) (.ListComp elt (⟨target, iter, ifs, 0⟩ :: rest) scope pos) 0 (.ref acc) Fc.env)
    (h : WE g F (eval iter F.env) m H (fun a m H => Walk0 g F scope target ifs tail a m H (fun ys H => ∀ b, H b = none → Q .next (setL m x (.ref b)) (put H b (.list ys))) (fun c as _ H => X c as m H)) X) :
    WS g F (exec (.Assign [.Name x px] (.ListComp elt (⟨target, iter, ifs, 0⟩ :: rest) scope pos) spos) F.env) m H Q X := fun s S => by
  rw [exec_Assign_Name_used _ _ _ _ hsw]
  refine wpAny_bind (wpAny_standAt (wpAny_bind ?_))
  show wpAny _ F.A (do let _ ← comprehension (.ListComp elt (⟨target, iter, ifs, 0⟩ :: rest) scope pos) scope F.env _ (newList []) false (eval iter F.env) (some (assign (.Name x px) F.env))) _ _ s
  refine wpAny_bind (wpAny_mono (comp_frame (use := some (assign (.Name x px) F.env)) (Q := fun _ s' => OkP g F FR Q s.heap H .next s') (Qy := fun ys m H => ∀ b, H b = none → Q .next (setL m x (.ref b)) (put H b (.list ys))) hd hfs hh hs hct S (headed_of S h)
    fun acc C s' ys m' H' S' K' nA oA q nC ne qq1 off => qq1.elim fun mc hn => ?_) (fun _ s' hq => wpAny_pure (wpAny_pure hq)) fun _ _ e => e)
  obtain ⟨S₂, K₂⟩ := S'.trackN K' nA oA
  show wpAny _ F.A (assign (.Name x px) F.env (.ref acc)) _ _ s'
  refine wpAny_mono (a_name (X := X) (Q := fun m H => Q .next m H) hx (q acc nA.un) s' _ S₂ (.ref' acc)) (fun _ s'' yy => yy.elim fun _ m'' H'' _ S₃ K₃ q₃ => ?_) fun _ _ x => x.after K₂
  have K₃' := K₂.trans K₃
  obtain ⟨oC, es, epC, eC, dC, rC⟩ := id hn
  have u2 : put H' acc (.list ys) C = none := by rw [put_ne _ _ ne]; exact nC.un
  obtain ⟨n'', z⟩ := K₃.same C oC eC u2 nC.mine
  have hn'' : s''.heap.Ns C mc := ns_mono hn fun o e => by
    rw [eC] at e; cases e
    exact z.imp id fun w => w.2
  refine ⟨mc, hn'', fun h' mc' hn' hsb => ?_⟩
  obtain ⟨S₄, K₄⟩ := off h' s''.toks m'' H'' s'' S₃ K₃' n'' ⟨mc, hn''⟩ ⟨mc', hn'⟩ hsb
  exact ⟨.next, m'', H'', rfl, S₄, K₄, q₃⟩
noncomputable def emitTail (elt : Expr) (Fc : Fm) (acc : Addr) : Sem Unit := do let _ ← call (.builtin "list.append") [.ref acc, ← eval elt Fc.env]
noncomputable def nestTail (elt t0 i0 : Expr) (ifs0 : List Expr) (target iter : Expr) (ifs : List Expr) (scope : Scope) (pos : Pos) (Fc : Fm) (acc : Addr) : Sem Unit := do
  let x ← eval iter Fc.env
  standAt iter.pos
  let x ← foldedSetIterable iter Fc.env x
  let _ ← runOwn (.compStart (.ListComp elt [⟨t0, i0, ifs0, 0⟩, ⟨target, iter, ifs, 0⟩] scope pos) 1 (← holding [x] (pyIter x)) (.ref acc) Fc.env) Fc.env
theorem turn_one (elt target iter : Expr) (ifs : List Expr) (scope : Scope) (pos : Pos) (Fc : Fm) (acc : Addr) (it : Value) :
    compTurn (.ListComp elt [⟨target, iter, ifs, 0⟩] scope pos) 0 it (.ref acc) Fc.env = turnTree target iter ifs it (emitTail elt Fc acc) (.ListComp elt [⟨target, iter, ifs, 0⟩] scope pos) 0 (.ref acc) Fc.env := rfl
theorem turn_two (elt t0 i0 target iter : Expr) (ifs0 ifs : List Expr) (scope : Scope) (pos : Pos) (Fc : Fm) (acc : Addr) (it : Value) :
    compTurn (.ListComp elt [⟨t0, i0, ifs0, 0⟩, ⟨target, iter, ifs, 0⟩] scope pos) 0 it (.ref acc) Fc.env = turnTree t0 i0 ifs0 it (nestTail elt t0 i0 ifs0 target iter ifs scope pos Fc acc) (.ListComp elt [⟨t0, i0, ifs0, 0⟩, ⟨target, iter, ifs, 0⟩] scope pos) 0 (.ref acc) Fc.env := by
  unfold compTurn turnTree testsOf
  simp only [List.getElem?_cons_zero, List.getElem?_cons_succ, Nat.zero_add]
  refine congrArg (Sem.bind (standAt i0.pos)) (funext fun _ => congrArg (Sem.bind (pyNext it)) (funext fun r => ?_))
  cases r with
  | none => rfl
  | some v =>
    refine congrArg (Sem.bind (letOwnedTupleGo t0 it v)) (funext fun _ => congrArg (Sem.bind (assign t0 Fc.env v)) (funext fun _ => congrArg (Sem.bind _) (funext fun ok => ?_)))
    unfold nestTail
    simp only [bind_assoc, pure_bind, bne_self_eq_false, Bool.false_eq_true, if_false]
end
end Mine
end
section
open PySem PySem.W PySem.Calls PyProof.Rows
set_option linter.unusedSectionVars false
set_option linter.unusedVariables false
namespace Mine
variable [ζ : Dead]
noncomputable def LA (g : G) (H : AH) (a : Addr) (xs : List V) : Prop := H a = some (.list xs) ∨ ∃ vs ep, g.B.get? a = some (lstObj vs ep) ∧ VRs g.B xs vs
theorem LA.at {g : G} {F : Fm} {m : Loc} {H : AH} {s : Shared} {a : Addr} {xs : List V} (S : St g F m H s) (x : LA g H a xs) : ∃ vs ep, s.heap.get? a = some (lstObj vs ep) ∧ VRs s.heap xs vs := by
  rcases x with x | ⟨vs, ep, e, r⟩
  · exact (S.obj a _ x).2
  · exact ⟨vs, ep, S.base _ _ e, r.mono fun b o _ q => S.base b o q⟩
noncomputable def Kp (g : G) (f : Value) : Prop := ∀ h, g.K.In h → ∃ k, (k = Keeper.frame ∨ k = Keeper.machine ∨ k = Keeper.boundFrame) ∧ Looks (model g.prog g.w) h (keeperOf f) k
theorem Kp.own {g : G} {f : Value} (h : keepIn g.K f = true) : Kp g f := keeps_K h
theorem Kp.blt {g : G} (id : String) : Kp g (.builtin id) := fun _ _ => ⟨.machine, .inr (.inl rfl), .now⟩
theorem Kp.type {g : G} (id : String) : Kp g (.type id) := fun _ _ => ⟨.machine, .inr (.inl rfl), .now⟩
section
variable {g : G} {F : Fm} {m : Loc} {H : AH} {X : Value → List V → Loc → AH → Prop} {Q : V → Loc → AH → Prop}
theorem evalArgs_all {M : Model} {A : Around} {E : Value → Shared → Prop} {s : Shared} {f : Value} {args : List (Bool × Sem Value)} {Q : Args → Shared → Prop} (hp : args.any (·.1) = false)
    (h : wpAny M A (spliced args) (fun vs s' => Q ⟨vs, []⟩ s') E s) : wpAny M A (evalArgs f true args []) Q E s := by
  cases args with
  | nil =>
    show wpAny M A (spliced [] >>= _) Q E s
    refine wpAny_bind (wpAny_mono h (fun vs s' h' => ?_) fun _ _ x => x)
    refine wpAny_bind (wpAny_pure ?_)
    refine wpAny_holding ?_
    exact wpAny_bind (wpAny_pure (wpAny_bind (wpAny_pure (wpAny_pure h'))))
  | cons x r =>
    obtain ⟨b, x⟩ := x
    cases b
    · exact evalArgs_plain h
    · simp at hp
noncomputable abbrev CW (g : G) (F : Fm) (f : Value) (first : List V) (pos : Pos) (args : List Expr) (m : Loc) (H : AH) (Q : V → Loc → AH → Prop) (X : Value → List V → Loc → AH → Prop) : Prop :=
  WN g F VR first (fun fv => callWith pos f fv (backTo pos (starEach args F.env)) []) m H Q X
noncomputable abbrev WC (g : G) (F : Fm) (f : Value) (xs : List V) (m : Loc) (H : AH) (Q : V → Loc → AH → Prop) (X : Value → List V → Loc → AH → Prop) : Prop := WN g F VR xs (fun vs => call f vs) m H Q X
noncomputable abbrev kCall (g : G) (F : Fm) (f : Value) (first : List V) (Q : V → Loc → AH → Prop) (X : Value → List V → Loc → AH → Prop) : List V → Loc → AH → Prop := fun xs m H => WC g F f (first ++ xs) m H Q X
noncomputable abbrev kFn (g : G) (F : Fm) (pos : Pos) (args : List Expr) (Q : V → Loc → AH → Prop) (X : Value → List V → Loc → AH → Prop) : V → Loc → AH → Prop := fun a m H => ∃ f, a = .cst f ∧ CW g F f [] pos args m H Q X
theorem cw_plain {f : Value} {first : List V} {pos : Pos} {args : List Expr} (hk : Kp g f) (h : WL g F (spliced (backTo pos (starEach args F.env))) m H (kCall g F f first Q X) X)
    (hp : (backTo pos (starEach args F.env)).any (·.1) = false := by rfl) : CW g F f first pos args m H Q X := fun s fv S r => by
  refine callWith_of (P := g.K.In) (by rw [hp]; rfl) hk (evalArgs_all hp (h.run S (fun vs s₁ xs m₁ H₁ r₁ S₁ k₁ h₁ => ⟨g.kin.keeps S₁.base, ?_⟩) fun _ _ x => x))
  exact wpAny_mono (h₁ s₁ _ S₁ ((r.keep S k₁).append r₁)) (fun _ _ x => x.after k₁) fun _ _ x => x.after k₁
noncomputable def Items (g : G) (a : V) (H : AH) (xs : List V) : Prop := xs.length ≤ sizeLine ∧ (a = .tup xs ∨ ∃ l, a = .ref l ∧ LA g H l xs)
theorem Items.star {a : V} {xs : List V} {s : Shared} {v : Value} {Q : List Value → Shared → Prop} {E : Value → Shared → Prop} (x : Items g a H xs) (S : St g F m H s) (r : VR s.heap a v)
    (h : ∀ vs h', (∀ b o, s.heap.get? b = some o → h'.get? b = some o) → VRs h' xs vs → Q vs { s with heap := h' }) : StarOf (model g.prog g.w) F.A E v Q s := by
  obtain ⟨hz, x⟩ := x
  have : ∃ t vs ep T, (T = "list" ∨ T = "tuple") ∧ v = .ref t ∧ s.heap.get? t = some { cls := .type T, data := .seq vs.toArray ep } ∧ VRs s.heap xs vs := by
    rcases x with rfl | ⟨l, rfl, x⟩
    · replace r := VR.tup_of r; obtain ⟨t, vs, ep, rfl, e, r⟩ := r; exact ⟨t, vs, ep, "tuple", .inr rfl, rfl, e, r⟩
    · rw [VR.ref_iff] at r; subst r; obtain ⟨vs, ep, e, r⟩ := x.at S; exact ⟨l, vs, ep, "list", .inl rfl, rfl, e, r⟩
  obtain ⟨t, vs, ep, T, hT, rfl, e, rs⟩ := this
  have hT' : s.TypeIs (.ref t) T := ⟨_, e, rfl⟩
  have z : wpAny (model g.prog g.w) F.A (collect (.ref t)) Q E s := by
    refine wpAny_collect_seq t hT e rfl rfl (fun h' hk => ?_) (by rw [List.size_toArray, rs.length]; exact hz)
    rw [List.toList_toArray]
    exact h vs h' hk (rs.mono fun _ _ _ q => hk _ _ q)
  rcases hT with rfl | rfl
  · exact wpAny_bind (wpAny_specialOf hT' PySem.F.slot_list_iter.lookup (wpAny_pure ⟨rfl, z⟩))
  · exact wpAny_bind (wpAny_specialOf hT' PySem.F.slot_tuple_iter.lookup (wpAny_pure ⟨rfl, z⟩))
theorem e_call {fn : Expr} {args : List Expr} {pos : Pos} (h : WE g F (eval fn F.env) m H (kFn g F pos args Q X) X)
    (he : eval (.Call fn args [] pos) F.env = (eval fn F.env >>= fun f => callWith pos f [] (backTo pos (starEach args F.env)) []) := by rfl) : WE g F (eval (.Call fn args [] pos) F.env) m H Q X := fun s S => by
  rw [he]
  refine wpAny_bind (h.run S (fun v s₁ a m₁ H₁ r₁ S₁ k₁ qq1 => qq1.elim fun f qq2 => qq2.elim fun e h₁ => ?_) fun _ _ x => x)
  subst e
  rw [VR.cst_iff] at r₁
  subst r₁
  exact wpAny_mono (h₁ s₁ [] S₁ .nil') (fun _ _ x => x.after k₁) fun _ _ x => x.after k₁
noncomputable def Meth (g : G) (a : V) (name : Str) (H : AH) (f : Value) : Prop :=
  ∀ (F : Fm) m s v pl (Q : Value × List Value → Shared → Prop) (E : Value → Shared → Prop), St g F m H s → VR s.heap a v → Q (f, [v]) s → wpAny (model g.prog g.w) F.A (getMethod v name pl) Q E s
noncomputable abbrev kMeth (g : G) (F : Fm) (name : Str) (pos : Pos) (args : List Expr) (Q : V → Loc → AH → Prop) (X : Value → List V → Loc → AH → Prop) : V → Loc → AH → Prop := fun a m H => ∃ f, Meth g a name H f ∧ CW g F f [a] pos args m H Q X
theorem fn_ok {f : Value} {pos : Pos} {args : List Expr} (h : CW g F f [] pos args m H Q X) : kFn g F pos args Q X (.cst f) m H := ⟨f, rfl, h⟩
theorem me_ok {a : V} {name : Str} {f : Value} {pos : Pos} {args : List Expr} (hm : Meth g a name H f) (h : CW g F f [a] pos args m H Q X) : kMeth g F name pos args Q X a m H := ⟨f, hm, h⟩
theorem e_meth {o : Expr} {name : Str} {apos pos : Pos} {args : List Expr} (h : WE g F (eval o F.env) m H (kMeth g F name pos args Q X) X)
    (hbase : attributeBase o name F.env (eval o F.env) = eval o F.env := by rfl)
    (hform : methodCallForm (args.length + ([] : List Keyword).length) (backTo pos (starEach args F.env)) (backToKw pos (keywordEach [] F.env)) = true := by rfl)
    (hline : (apos.endLine == pos.line) = true := by rfl) : WE g F (eval (.Call (.Attribute o name apos) args [] pos) F.env) m H Q X := fun s S => by
  rw [arm_eval_Call, hbase]
  refine wpAny_bind (h.run S (fun v s₁ a m₁ H₁ r₁ S₁ k₁ qq1 => qq1.elim fun f qq2 => qq2.elim fun hm h₁ => ?_) fun _ _ x => x)
  refine wpAny_bind (wpAny_standAt ?_)
  have hpos : methodCallPos true o F.env apos pos = pure pos := by unfold methodCallPos; simp [hline]
  unfold methodCall
  rw [hform]
  refine wpAny_bind (wpAny_holding (hm F m₁ s₁ v _ _ _ S₁ r₁ ?_))
  exact wpAny_bind (wpAny_of_eq hpos (wpAny_mono (h₁ s₁ [v] S₁ (.cons r₁ .nil')) (fun _ _ x => x.after k₁) fun _ _ x => x.after k₁))
theorem meth_list {l : Addr} {xs : List V} {name : Str} {id : String} (x : LA g H l xs) (slot : Slot "list" name id) (hty : typeOf (.builtin id) = pure (.type "method_descriptor")) : Meth g (.ref l) name H (.builtin id) := fun F m s v pl Q E S r h => by
  rw [VR.ref_iff] at r; subst r
  obtain ⟨vs, ep, e, _⟩ := x.at S
  exact getMethod_builtin (T := "list") ⟨_, e, rfl⟩ PySem.F.plainAttrs_list slot hty (fun a q => by cases q; exact ⟨_, e, rfl⟩) h
theorem meth_dict {l : Addr} {es : List (Int × V)} {ep : Nat} {name : Str} {id : String} (x : H l = some (.dict es ep)) (slot : Slot "dict" name id) (hty : typeOf (.builtin id) = pure (.type "method_descriptor")) : Meth g (.ref l) name H (.builtin id) := fun F m s v pl Q E S r h => by
  rw [VR.ref_iff] at r; subst r
  obtain ⟨o, ds, e, hc, _⟩ := (S.obj l _ x).2
  exact getMethod_builtin (T := "dict") ⟨_, e, hc.1⟩ PySem.F.plainAttrs_dict slot hty (fun a q => by cases q; exact ⟨_, e, hc.2.1⟩) h
theorem meth_set {l : Addr} {T : Int → Bool} {n : Nat} (x : H l = some (.set T n)) : Meth g (.ref l) "add" H (.builtin "set.add") := fun F m s v pl Q E S r h => by
  rw [VR.ref_iff] at r; subst r
  obtain ⟨o, es, ep, t, ps, us, e, hc, _⟩ := (S.obj l _ x).2
  exact getMethod_builtin (T := "set") ⟨_, e, hc.1⟩ PySem.F.plainAttrs_set PySem.F.slot_set_add PySem.F.type_set_add (fun a q => by cases q; exact ⟨_, e, hc.2.1⟩) h
end
end Mine
end
section
open PySem PySem.W PySem.Calls PyProof.Rows
set_option linter.unusedSectionVars false
set_option linter.unusedVariables false
namespace Mine
variable [ζ : Dead]
section
variable {g : G} {F : Fm} {m : Loc} {H : AH} {X : Value → List V → Loc → AH → Prop}
noncomputable abbrev kU (Q : Loc → AH → Prop) : Unit → Loc → AH → Prop := fun (_ : Unit) m H => Q m H
noncomputable abbrev kGetA (g : G) (F : Fm) (attr : Str) (Q : V → Loc → AH → Prop) (X : Value → List V → Loc → AH → Prop) : V → Loc → AH → Prop := fun a m H => W1 g F VR a (fun v => getAttr v attr true) m H Q X
noncomputable abbrev kSetA (g : G) (F : Fm) (x : V) (attr : Str) (Q : Loc → AH → Prop) (X : Value → List V → Loc → AH → Prop) : V → Loc → AH → Prop := fun a m H => W2 g F EqR a x (fun ov v => setAttr ov attr v) m H (kU Q) X
noncomputable abbrev kAug1 (g : G) (F : Fm) (a : V) (attr : Str) (Q : Fl → Loc → AH → Prop) (X : Value → List V → Loc → AH → Prop) : V → Loc → AH → Prop := fun c m H => W2 g F EqR a c (fun ov v => setAttr ov attr v) m H (kU (kN Q)) X
noncomputable abbrev kAug2 (g : G) (F : Fm) (a : V) (attr : Str) (op : Operator) (e : Expr) (Q : Fl → Loc → AH → Prop) (X : Value → List V → Loc → AH → Prop) : V → Loc → AH → Prop := fun old m H => WE g F (eval e F.env) m H (k2 g F VR (inplaceOp op) old (kAug1 g F a attr Q X) X) X
noncomputable abbrev kAug3 (g : G) (F : Fm) (attr : Str) (op : Operator) (e : Expr) (Q : Fl → Loc → AH → Prop) (X : Value → List V → Loc → AH → Prop) : V → Loc → AH → Prop := fun a m H => W1 g F VR a (fun v => getAttr v attr true) m H (kAug2 g F a attr op e Q X) X
theorem e_attr {o : Expr} {attr : Str} {pos : Pos} {Q : V → Loc → AH → Prop} (h : WE g F (eval o F.env) m H (kGetA g F attr Q X) X)
    (hbase : attributeBase o attr F.env (eval o F.env) = eval o F.env := by rfl) : WE g F (eval (.Attribute o attr pos) F.env) m H Q X := fun s S => by
  rw [arm_eval_Attribute, hbase]
  refine wpAny_bind (h.run S (fun v s₁ a m₁ H₁ r₁ S₁ k₁ h₁ => wpAny_bind (wpAny_standAt (wpAny_bind (wpAny_holding ?_)))) fun _ _ x => x)
  refine wpAny_mono (h₁ s₁ v S₁ r₁) (fun r s₂ x => wpAny_bind (wpAny_letTemporaryGo (wpAny_pure (x.after k₁)))) fun _ _ x => x.after k₁
theorem a_attr {o : Expr} {attr : Str} {pos : Pos} {x : V} {Q : Loc → AH → Prop} (h : WE g F (eval o F.env) m H (kSetA g F x attr Q X) X) : WA g F (.Attribute o attr pos) x m H Q X := fun s v S r => by
  show wpAny _ _ (assign (.Attribute o attr pos) F.env v) _ _ s
  rw [assign_Attribute]
  refine wpAny_bind (wpAny_holding (h.run S (fun ov s₁ a m₁ H₁ r₁ S₁ k₁ h₁ => wpAny_bind (wpAny_standAt (wpAny_bind (wpAny_holding ?_)))) fun _ _ x => x))
  exact wpAny_mono (h₁ s₁ ov v S₁ r₁ (r.keep S k₁)) (fun _ s₂ x => wpAny_release (x.after k₁)) fun _ _ x => x.after k₁
theorem s_augattr {o e : Expr} {attr : Str} {tpos pos : Pos} {op : Operator} {Q : Fl → Loc → AH → Prop}
    (h : WE g F (eval o F.env) m H (kAug3 g F attr op e Q X) X) :
    WS g F (exec (.AugAssign (.Attribute o attr tpos) op e pos) F.env) m H Q X := fun s S => by
  refine wpAny_AugAssign_AttributeAny (h.run S (fun ov s₁ a m₁ H₁ r₁ S₁ k₁ h₁ => ?_) fun _ _ x => x)
  refine wpAny_mono (h₁ s₁ ov S₁ r₁) (fun old s₂ yy => yy.elim fun o' m₂ H₂ r₂ S₂ k₂ h₂ => ?_) fun _ _ x => x.after k₁
  have K₂ := k₁.trans k₂
  refine h₂.run S₂ (fun b s₃ b' m₃ H₃ r₃ S₃ k₃ h₃ => ?_) fun _ _ x => x.after K₂
  have K₃ := K₂.trans k₃
  refine wpAny_mono (h₃ s₃ _ _ S₃ (r₂.keep S₂ k₃) r₃) (fun c s₄ yy => yy.elim fun c' m₄ H₄ r₄ S₄ k₄ h₄ => ?_) fun _ _ x => x.after K₃
  have K₄ := K₃.trans k₄
  exact wpAny_mono (h₄ s₄ _ _ S₄ (((r₁.keep S₁ k₂).keep S₂ k₃).keep S₃ k₄) r₄) (fun _ s₅ yy => yy.elim fun _ m₅ H₅ _ S₅ k₅ h₅ => ⟨.next, m₅, H₅, rfl, S₅, K₄.trans k₅, h₅⟩) fun _ _ x => x.after K₄
noncomputable def GI (g : G) (F : Fm) (a i : V) (m : Loc) (H : AH) (Q : V → Loc → AH → Prop) (X : Value → List V → Loc → AH → Prop) : Prop :=
  ∃ T id, typeLookup (.type T) "__getitem__" = pure (some (.builtin id)) ∧ (∀ s v, St g F m H s → VR s.heap a v → s.TypeIs v T) ∧ W2 g F VR a i getItem m H Q X
noncomputable abbrev kGI (g : G) (F : Fm) (a : V) (Q : V → Loc → AH → Prop) (X : Value → List V → Loc → AH → Prop) : V → Loc → AH → Prop := fun b m H => GI g F a b m H Q X
noncomputable abbrev kSub (g : G) (F : Fm) (i : Expr) (Q : V → Loc → AH → Prop) (X : Value → List V → Loc → AH → Prop) : V → Loc → AH → Prop := fun a m H => WE g F (eval i F.env) m H (kGI g F a Q X) X
noncomputable abbrev kSI (g : G) (F : Fm) (x a : V) (Q : Loc → AH → Prop) (X : Value → List V → Loc → AH → Prop) : V → Loc → AH → Prop := fun b m H => W3 g F EqR a b x (fun ov iv v => setItem ov iv v) m H (kU Q) X
noncomputable abbrev kASub (g : G) (F : Fm) (i : Expr) (x : V) (Q : Loc → AH → Prop) (X : Value → List V → Loc → AH → Prop) : V → Loc → AH → Prop := fun a m H => WE g F (eval i F.env) m H (kSI g F x a Q X) X
theorem e_sub {o i : Expr} {pos : Pos} {Q : V → Loc → AH → Prop} (h : WE g F (eval o F.env) m H (kSub g F i Q X) X)
    (hi : ∀ ov iv, subscripted i false ov iv = operate [ov, iv] (getItem ov iv) ∨ subscripted i false ov iv = operate [iv, ov] (getItem ov iv) := by intros; first | exact Or.inl rfl | exact Or.inr rfl) : WE g F (eval (.Subscript o i pos) F.env) m H Q X := fun s S => by
  rw [eval_Subscript]
  refine wpAny_bind (h.run S (fun ov s₁ a m₁ H₁ r₁ S₁ k₁ h₁ => wpAny_bind (wpAny_holding (h₁.run S₁ (fun iv s₂ b m₂ H₂ r₂ S₂ k₂ h₂ => wpAny_bind (wpAny_standAt ?_)) fun _ _ x => x.after k₁))) fun _ _ x => x)
  obtain ⟨T, id, hl, hT, hg⟩ := h₂
  have ra := r₁.keep S₁ k₂
  have hT' := hT s₂ ov S₂ ra
  refine wpAny_bind ?_
  rw [getitemInPython_of_ne hT'.not_modules]
  refine wpAny_bind (wpAny_specialOf hT' hl ?_)
  have k := k₁.trans k₂
  have fin : wpAny (model g.prog g.w) F.A (getItem ov iv) (fun r s₃ => wpAny (model g.prog g.w) F.A (letTemporaryGo o ov r >>= fun _ => pure r) (OkP g F VR Q s.heap H) (ErP g F X s.heap H) s₃) (ErP g F X s.heap H) s₂ :=
    wpAny_mono (hg s₂ ov iv S₂ ra r₂) (fun r s₃ x => wpAny_bind (wpAny_letTemporaryGo (wpAny_pure (x.after k)))) fun _ _ x => x.after k
  refine wpAny_pure (wpAny_bind ?_)
  rcases hi ov iv with e | e <;> rw [e] <;> exact wpAny_operating fin
theorem a_sub {o i : Expr} {pos : Pos} {x : V} {Q : Loc → AH → Prop} (h : WE g F (eval o F.env) m H (kASub g F i x Q X) X) : WA g F (.Subscript o i pos) x m H Q X := fun s v S r => by
  show wpAny _ _ (assign (.Subscript o i pos) F.env v) _ _ s
  rw [assign_Subscript]
  refine wpAny_bind (wpAny_holding (h.run S (fun ov s₁ a m₁ H₁ r₁ S₁ k₁ h₁ => wpAny_bind (wpAny_holding (h₁.run S₁ (fun iv s₂ b m₂ H₂ r₂ S₂ k₂ h₂ => wpAny_bind (wpAny_standAt (wpAny_bind (wpAny_holding ?_)))) fun _ _ x => x.after k₁))) fun _ _ x => x))
  have k := k₁.trans k₂
  exact wpAny_mono (h₂ s₂ ov iv v S₂ (r₁.keep S₁ k₂) r₂ (r.keep S k)) (fun _ s₃ x => wpAny_release (x.after k)) fun _ _ x => x.after k
theorem s_delsub {o i : Expr} {pos pos' : Pos} {Q : Fl → Loc → AH → Prop} (h : WE g F (eval o F.env) m H (fun a m H => WE g F (eval i F.env) m H (fun b m H => W2 g F EqR a b (fun ov iv => delItem ov iv) m H (fun (_ : Unit) m H => Q .next m H) X) X) X) :
    WS g F (exec (.Delete [.Subscript o i pos'] pos) F.env) m H Q X := fun s S => by
  refine wpAny_Delete (wpAny_deleteEach_cons (wpAny_delete_Subscript (h.run S (fun ov s₁ a m₁ H₁ r₁ S₁ k₁ h₁ => h₁.run S₁ (fun iv s₂ b m₂ H₂ r₂ S₂ k₂ h₂ => ?_) fun _ _ x => x.after k₁) fun _ _ x => x)))
  have k := k₁.trans k₂
  exact wpAny_mono (h₂ s₂ ov iv S₂ (r₁.keep S₁ k₂) r₂) (fun _ s₃ yy => yy.elim fun _ m₃ H₃ _ S₃ k₃ h₃ => wpAny_deleteEach_nil ⟨.next, m₃, H₃, rfl, S₃, k.trans k₃, h₃⟩) fun _ _ x => x.after k
theorem s_expr {e : Expr} {pos : Pos} {Q : Fl → Loc → AH → Prop} (h : WE g F (eval e F.env) m H (kX Q) X) (hs : swapsWith e none pos.line F.env = pure false := by rfl) : WS g F (exec (.Expr e pos) F.env) m H Q X := fun s S => by
  have hi : interactive F.env = false := by unfold interactive; rw [S.loc.kind]; rfl
  exact wpAny_Expr_any (h.run S (fun v s₁ a m₁ H₁ r₁ S₁ k₁ h₁ => ⟨.next, m₁, H₁, rfl, S₁, k₁, h₁⟩) fun _ _ x => x) hi hs
noncomputable def WIn (g : G) (F : Fm) : List Expr → List V → Loc → AH → (Loc → AH → Prop) → (Value → List V → Loc → AH → Prop) → Prop
  | [], _, m, H, Q, _ => Q m H
  | t :: ts, x :: xs, m, H, Q, X => WA g F t x m H (fun m H => WIn g F ts xs m H Q X) X
  | _ :: _, [], _, _, _, _ => False
theorem win_run {h₀ : Heap} {H₀ : AH} {Q : Loc → AH → Prop} : ∀ {ts : List Expr} {xs : List V} {vs : List Value} {m : Loc} {H : AH} {s : Shared} {fs : List (Value → Sem Unit)}, fs = ts.map (fun t v => assign t F.env v) → WIn g F ts xs m H Q X → St g F m H s → Keep F h₀ H₀ s.heap H → VRs s.heap xs vs →
    wpAny (model g.prog g.w) F.A (assignInOrder fs vs) (fun _ s' => ∃ m' H', St g F m' H' s' ∧ Keep F h₀ H₀ s'.heap H' ∧ Q m' H') (ErP g F X h₀ H₀) s
  | [], xs, vs, m, H, s, _, e, h, S, K, r => by subst e; exact wpAny_pure ⟨m, H, S, K, h⟩
  | t :: ts, [], vs, m, H, s, _, e, h, S, K, r => h.elim
  | t :: ts, x :: xs, vs, m, H, s, _, e, h, S, K, r => by
    subst e
    obtain ⟨v, r', rfl, rv, rs⟩ := r.uncons
    refine wpAny_bind (wpAny_holding (wpAny_mono (h s v S rv) (fun _ s₁ yy => yy.elim fun _ m₁ H₁ _ S₁ k₁ h₁ => ?_) fun _ _ x => x.after K))
    exact win_run rfl h₁ S₁ (K.trans k₁) (rs.keep S k₁)
theorem a_tuple {elts : List Expr} {k : Nat} {pos : Pos} {xs : List V} {Q : Loc → AH → Prop} (hh : F.A.handled = none) (hn : elts.length = xs.length) (h : WIn g F elts xs m H Q X)
    (he : assignEach elts F.env = elts.map (fun t => (false, fun v => assign t F.env v)) := by rfl) : WA g F (.Tuple elts k pos) (.tup xs) m H Q X := fun s v S r => by
  replace r := VR.tup_of r
  obtain ⟨t, vs, ep, rfl, e, r⟩ := r
  refine assign_Tuple_tuple hh (items := vs.toArray) ⟨_, e, rfl, ep, rfl⟩ (by rw [he, List.length_map, List.size_toArray, r.length, hn]) (by rw [he]; induction elts <;> simp_all [List.findIdx?_cons]) fun h' hx => ?_
  have kp : ∀ b o, s.heap.get? b = some o → h'.get? b = some o := fun b o q => hx b o (Nat.ne_of_lt (Heap.lt_size q)) q
  obtain ⟨S₁, k₁⟩ := S.ext (t := s.toks) kp
  rw [List.toList_toArray]
  refine wpAny_mono (win_run (ts := elts) (by rw [he, List.map_map]; rfl) h S₁ k₁ (r.mono fun _ _ _ q => kp _ _ q)) (fun _ s' qq1 => qq1.elim fun m' qq2 => qq2.elim fun H' qq3 => qq3.elim fun S' qq4 => qq4.elim fun K' q => ⟨(), m', H', rfl, S', K', q⟩) fun _ _ x => x
end
end Mine
end
section
open PySem PySem.W PySem.Calls PyProof.Rows Builtin.Getset_descriptor
set_option linter.unusedSectionVars false
set_option linter.unusedVariables false
namespace Mine
variable [ζ : Dead]
theorem isStr_str (x y : Str) (t : Tok) : (Value.str x t).isStr y = (x == y) := rfl
theorem nsR_look {h : Heap} {name : Str} {x : V} : ∀ {fs : List (Str × V)} {es : List DictEntry}, NsR h fs es → fs.lookup name = some x → ∃ v, getL name es = some (some v) ∧ VR h x v
  | [], _, _, e => by cases e
  | f :: fs, es, ⟨hs, t, v, r, e, hv, hr⟩, hl => by
    subst e
    unfold getL
    rw [List.find?_cons]
    rw [List.lookup_cons] at hl
    by_cases q : f.1 = name
    · subst q
      rw [show (f.1 == f.1) = true from beq_self_eq_true _] at hl
      cases hl
      refine ⟨v, ?_, hv⟩
      rw [isStr_str, beq_self_eq_true]
    · have q1 : (name == f.1) = false := beq_eq_false_iff_ne.mpr (Ne.symm q)
      have q2 : (f.1 == name) = false := beq_eq_false_iff_ne.mpr q
      rw [q1] at hl
      obtain ⟨v', g1, g2⟩ := nsR_look hr hl
      refine ⟨v', ?_, g2⟩
      rw [isStr_str, q2]
      unfold getL at g1
      cases z : List.find? (fun x => x.key.isStr name) r with
      | some e' => rw [z] at g1; exact g1
      | none => rw [z] at g1; dsimp only at g1; split at g1 <;> cases g1
theorem nsR_ref {h : Heap} : ∀ {fs : List (Str × V)} {es : List DictEntry}, NsR h fs es → es.any (·.refKey) = false
  | [], _, e => by subst e; rfl
  | f :: fs, es, ⟨hs, t, v, r, e, hv, hr⟩ => by subst e; rw [List.any_cons, nsR_ref hr]; rfl
theorem nsR_miss {h : Heap} {name : Str} {fs : List (Str × V)} {es : List DictEntry} (x : NsR h fs es) (hl : fs.lookup name = none) : getL name es = some none := by
  have : es.find? (·.key.isStr name) = none := by
    induction fs generalizing es with
    | nil => cases x; rfl
    | cons f fs ih =>
      obtain ⟨hs, t, v, r, e, hv, hr⟩ := x
      subst e
      rw [List.lookup_cons] at hl
      by_cases q : name = f.1
      · subst q; rw [beq_self_eq_true] at hl; cases hl
      · rw [beq_eq_false_iff_ne.mpr q] at hl
        rw [List.find?_cons, isStr_str, beq_eq_false_iff_ne.mpr (Ne.symm q)]
        exact ih hr hl
  unfold getL
  rw [this, nsR_ref x]
  rfl
noncomputable def putF (name : Str) (x : V) : List (Str × V) → List (Str × V)
  | [] => [(name, x)]
  | f :: r => if f.1 == name then (f.1, x) :: r else f :: putF name x r
theorem nsR_put {h : Heap} {name : Str} {x : V} {v : Value} {hsh : Int} {t : Tok} (hv : VR h x v) : ∀ {fs : List (Str × V)} {es : List DictEntry}, NsR h fs es → NsR h (putF name x fs) (putL name hsh (.str name t) v es)
  | [], _, e => by cases e; exact ⟨hsh, t, v, [], rfl, hv, rfl⟩
  | f :: fs, es, ⟨hs, t', v', r, e, hv', hr⟩ => by
    subst e
    unfold putF putL
    rw [isStr_str]
    by_cases q : (f.1 == name) = true
    · rw [if_pos q, if_pos q]; exact ⟨hs, t', v, r, rfl, hv, hr⟩
    · rw [if_neg q, if_neg q]; exact ⟨hs, t', v', _, rfl, hv', nsR_put hv hr⟩
theorem nsR_len {h : Heap} : ∀ {fs : List (Str × V)} {es : List DictEntry}, NsR h fs es → es.length = fs.length
  | [], _, e => by cases e; rfl
  | f :: fs, es, ⟨hs, t', v', r, e, hv', hr⟩ => by subst e; simp [nsR_len hr]
theorem putF_len (name : Str) (x : V) : ∀ fs : List (Str × V), (putF name x fs).length ≤ fs.length + 1
  | [] => Nat.le_refl _
  | f :: r => by unfold putF; split <;> simp; have := putF_len name x r; exact o76 this
structure AttrD (K : Frag) (C : Addr) (name : Str) : Prop where
  plain : plainGet K C name = true
  dict : hasDictIn K C = true
  attr : ∃ attr, findIn K (.ref C) name = some attr ∧ noGet K attr = true
  sets : findIn K (.ref C) "__setattr__" = some (some (.builtin "object.__setattr__"))
  over : plainOver K C = true
  taker : takerIn K C name = some none
structure AttrS (K : Frag) (C : Addr) (name : Str) (p i : Nat) : Prop where
  plain : plainGet K C name = true
  cls : (clsIn K C).isSome = true
  attr : findIn K (.ref C) name = some (some (.ref p))
  get : specialIn K (.ref p) "__get__" = some (some (.builtin "member_descriptor.__get__"))
  takes : takesIn K (.ref p) = some true
  slot : slotIn K p C = some i
  sets : findIn K (.ref C) "__setattr__" = some (some (.builtin "object.__setattr__"))
  over : plainOver K C = true
  taker : takerIn K C name = some (some (.ref p))
  typ : typeIn K (.ref p) = some (.type "member_descriptor")
  small : i < 1000
structure MethD (K : Frag) (C : Addr) (name : Str) (f : Addr) : Prop where
  plain : plainGet K C name = true
  find : findIn K (.ref C) name = some (some (.ref f))
  fn : isFn K (.ref f) = true
noncomputable def handed : V → Bool
  | .cst _ => false
  | _ => true
theorem handed_in {h : Heap} {x : V} {v : Value} (e : handed x = true) (r : VR h x v) : handedIn v = true := by
  cases x with
  | cst => cases e
  | none => rw [VR.none_iff] at r; subst r; rfl
  | bool => rw [VR.bool_iff] at r; subst r; rfl
  | int => rw [VR.int_iff] at r; obtain ⟨_, rfl⟩ := r; rfl
  | str => rw [VR.str_iff] at r; obtain ⟨_, rfl⟩ := r; rfl
  | pint => rw [VR.pint_iff] at r; obtain ⟨_, rfl⟩ := r; rfl
  | pstr => rw [VR.pstr_iff] at r; obtain ⟨_, rfl⟩ := r; rfl
  | ref => rw [VR.ref_iff] at r; subst r; rfl
  | tup => replace r := VR.tup_of r; obtain ⟨_, _, _, rfl, _⟩ := r; rfl
  | rng => unfold VR at r; obtain ⟨_, _, _, _, rfl, _⟩ := r; rfl
  | view => unfold VR at r; obtain ⟨_, rfl, _⟩ := r; rfl
section
variable {g : G} {F : Fm} {m : Loc} {H : AH} {s : Shared} {X : Value → List V → Loc → AH → Prop}
theorem St.kin (S : St g F m H s) : g.K.In s.heap := g.kin.keeps S.base
theorem inst_at {a C dx : Addr} {fs : List (Str × V)} (S : St g F m H s) (ha : H a = some (.inst C dx)) (hd : H dx = some (.ns fs)) : ∃ es n, InstAt s.heap a (instObj C dx) C (some (dictOf es n)) ∧ s.heap.get? dx = some (dictOf es n) ∧ NsR s.heap fs es := by
  have e1 : s.heap.get? a = some (instObj C dx) := (S.obj a _ ha).2
  obtain ⟨es, n, e2, r⟩ := (S.obj dx _ hd).2
  exact ⟨es, n, ⟨e1, rfl, rfl, e2⟩, e2, r⟩
theorem x_get {a C dx : Addr} {fs : List (Str × V)} {name : Str} {x : V} {Q : V → Loc → AH → Prop} (A : AttrD g.K C name) (ha : H a = some (.inst C dx)) (hd : H dx = some (.ns fs)) (hx : fs.lookup name = some x) (hh : handed x = true) (h : Q x m H) : W1 g F VR (.ref a) (fun v => getAttr v name true) m H Q X := fun s v S r => by
  rw [VR.ref_iff] at r; subst r
  obtain ⟨es, n, I, _, hr⟩ := inst_at S ha hd
  obtain ⟨v, hv, rv⟩ := nsR_look hr hx
  obtain ⟨attr, h1, h2⟩ := A.attr
  exact get_value S.kin I (plainGet_of A.plain).1 (findObj_own A.dict h1 h2 (by rw [lookIn_dict]; exact hv)) (handed_in hh rv) (OkP.now S rfl rfl rfl rv h)
theorem meth_inst {a C dx f : Addr} {fs : List (Str × V)} {name : Str} (M : MethD g.K C name f) (ha : H a = some (.inst C dx)) (hd : H dx = some (.ns fs)) (hx : fs.lookup name = none) : Meth g (.ref a) name H (.ref f) := fun F m s v pl Q E S r h => by
  rw [VR.ref_iff] at r; subst r
  obtain ⟨es, n, I, _, hr⟩ := inst_at S ha hd
  exact method_fn S.kin I (plainGet_of M.plain).1 (plainGet_of M.plain).2 M.find (beq_iff_eq.mp M.fn) (by show (lookIn name (dictOf es n)).map _ = _; rw [lookIn_dict, nsR_miss hr hx]; rfl) h
theorem x_set {a C dx : Addr} {fs : List (Str × V)} {name : Str} {x : V} {Q : Loc → AH → Prop} (A : AttrD g.K C name) (ha : H a = some (.inst C dx)) (hd : H dx = some (.ns fs)) (hz : fs.length ≤ 900) (h : Q m (put H dx (.ns (putF name x fs)))) :
    W2 g F EqR (.ref a) x (fun ov v => setAttr ov name v) m H (fun (_ : Unit) m H => Q m H) X := fun s v u S r ru => by
  rw [VR.ref_iff] at r; subst r
  obtain ⟨es, n, I, D, hr⟩ := inst_at S ha hd
  refine set_plain S.kin I A.sets (osa_open (s := { s with toks := s.toks + 1 }) S.kin I A.over A.taker fun b => ?_)
  obtain ⟨cd, hc, hdi⟩ := any_some A.dict
  have hx := I.at_
  refine wpAny_bind (wpAny_pure (wpAny_bind (wpAny_bind (wpAny_loadPart hx (wpAny_bind ((looks_clsIn (h := s.heap) S.kin hc) _ _ _ _ (fun _ _ e => e) ?_))))))
  rw [hdi]
  refine wpAny_pure (a := some dx) (wpAny_bind (wpAny_pure (wpAny_bind ?_)))
  refine wpAny_bind (wpAny_bind (wpAny_askSetting (wpAny_pure (wpAny_bind (wpAny_mkText (wpAny_bind (wpAny_loadPart D ?_)))))))
  have hrf : es.toArray.any (·.refKey) = false := by rw [← Array.any_toList]; exact nsR_ref hr
  dsimp only
  rw [aRefKeyMayBeTheName_at, hrf, Bool.and_false]
  have D' : (s.heap.update dx (Obj.putName name (PyData.keyHash g.w.params name) (.str name (s.toks + 1)) u)).get? dx = some (dictOf (putL name (PyData.keyHash g.w.params name) (.str name (s.toks + 1)) u es) (putN name es n)) := by
    rw [← putName_dict]
    exact Heap.get?_update_self _ D (by rw [putName_dict]; rfl)
  refine wpAny_updatePart D ?_
  have C : Chg (· = dx) s.heap (s.heap.update dx (Obj.putName name (PyData.keyHash g.w.params name) (.str name (s.toks + 1)) u)) := .sameBut ⟨Heap.size_update .., fun b q => Heap.get?_update_other _ _ (Ne.symm q)⟩ D' fun _ _ _ _ _ => ⟨_, _, rfl⟩
  have hr' : NsR (s.heap.update dx (Obj.putName name (PyData.keyHash g.w.params name) (.str name (s.toks + 1)) u)) (putF name x fs) (putL name (PyData.keyHash g.w.params name) (.str name (s.toks + 1)) u es) := by
    have mn : Mono s.heap (s.heap.update dx (Obj.putName name (PyData.keyHash g.w.params name) (.str name (s.toks + 1)) u)) := ⟨fun b o i e => C.same b o e fun q => (by subst q; rw [D] at e; cases e; have := i.cls; cases this), C.dct⟩
    exact NsR.mono mn _ _ (nsR_put ru hr)
  refine wpAny_bind (wpAny_lookBehind D' (pastItsLine_dict ?_) ?_)
  · rw [List.size_toArray, nsR_len hr', sizeLine_eq]; have := putF_len name x fs; exact o77 this hz
  · obtain ⟨S', K'⟩ := S.set (t := s.toks + 2) C hd (o' := .ns (putF name x fs)) ⟨_, _, D', hr'⟩
    exact wpAny_pure ⟨(), m, _, rfl, S', K', h⟩
theorem slR_get {h : Heap} : ∀ {xs : List V} {sl : List (Option Value)}, SlR h xs sl → ∀ {i : Nat} {x : V}, xs[i]? = some x → ∃ v, sl[i]? = some (some v) ∧ VR h x v
  | [], _, _, _, _, e => by simp at e
  | y :: ys, _, ⟨v, r, e', hv, hr⟩, i, x, e => by
    subst e'
    cases i with
    | zero => simp only [List.getElem?_cons_zero, Option.some.injEq] at e ⊢; subst e; exact ⟨v, rfl, hv⟩
    | succ j => simp only [List.getElem?_cons_succ] at e ⊢; exact slR_get hr e
theorem slR_len {h : Heap} : ∀ {xs : List V} {sl : List (Option Value)}, SlR h xs sl → sl.length = xs.length
  | [], _, e => by cases e; rfl
  | y :: ys, _, ⟨v, r, e', hv, hr⟩ => by subst e'; simp [slR_len hr]
theorem slR_set {h : Heap} {x : V} {v : Value} (hx : VR h x v) : ∀ {xs : List V} {sl : List (Option Value)} {i : Nat}, SlR h xs sl → SlR h (xs.set i x) (sl.set i (some v))
  | [], _, _, e => by cases e; rfl
  | y :: ys, _, i, ⟨u, r, e', hv, hr⟩ => by
    subst e'
    cases i with
    | zero => exact ⟨v, r, rfl, hx, hr⟩
    | succ j => exact ⟨u, _, rfl, hv, slR_set hx hr⟩
theorem slR_app {h : Heap} {x : V} {v : Value} (hx : VR h x v) : ∀ {xs : List V} {sl : List (Option Value)}, SlR h xs sl → SlR h (xs ++ [x]) (sl ++ [some v])
  | [], _, e => by cases e; exact ⟨v, [], rfl, hx, rfl⟩
  | y :: ys, _, ⟨u, r, e', hv, hr⟩ => by subst e'; exact ⟨u, _, rfl, hv, slR_app hx hr⟩
theorem node_at {a C : Addr} {xs : List V} (S : St g F m H s) (ha : H a = some (.node C xs)) : ∃ dx sl o, InstAt s.heap a (nodeObj C dx sl) C (some o) ∧ SlR s.heap xs sl ∧ (∃ es ep, o.data = .dict es ep) ∧ s.heap.get? dx = some o := by
  obtain ⟨dx, sl, e, hr, o, es, ep, hd, d⟩ := (S.obj a _ ha).2
  exact ⟨dx, sl, o, ⟨e, rfl, rfl, hd⟩, hr, ⟨es, ep, d⟩, hd⟩
theorem x_slot {a C : Addr} {xs : List V} {name : Str} {p i : Nat} {x : V} {Q : V → Loc → AH → Prop} (A : AttrS g.K C name p i) (ha : H a = some (.node C xs)) (hx : xs[i]? = some x) (hh : handed x = true) (h : Q x m H) : W1 g F VR (.ref a) (fun v => getAttr v name true) m H Q X := fun s v S r => by
  rw [VR.ref_iff] at r; subst r
  obtain ⟨dx, sl, o, I, hr, _, _⟩ := node_at S ha
  obtain ⟨v, hv, rv⟩ := slR_get hr hx
  refine get_bind S.kin I (plainGet_of A.plain).1 (findObj_data A.cls A.attr A.get A.takes) (plainGet_of A.plain).2 (wpAny_call (slot_get (s := { s with toks := s.toks + 1 }) S.kin I A.slot (v := v) (by simp [hv]) ?_))
  exact handed_on (handed_in hh rv) (OkP.now S rfl rfl rfl rv h)
noncomputable def setS (xs : List V) (i : Nat) (x : V) : List V := if i < xs.length then xs.set i x else xs ++ [x]
theorem x_slotset {a C : Addr} {xs : List V} {name : Str} {p i : Nat} {x : V} {Q : Loc → AH → Prop} (A : AttrS g.K C name p i) (ha : H a = some (.node C xs)) (hi : i ≤ xs.length) (h : Q m (put H a (.node C (setS xs i x)))) :
    W2 g F EqR (.ref a) x (fun ov v => setAttr ov name v) m H (fun (_ : Unit) m H => Q m H) X := fun s v u S r ru => by
  rw [VR.ref_iff] at r; subst r
  obtain ⟨dx, sl, o, I, hr, ⟨esd, epd, dd⟩, hdx⟩ := node_at S ha
  refine set_plain S.kin I A.sets (osa_descr (s := { s with toks := s.toks + 1 }) KF.slot_mset S.kin I A.over A.taker A.typ ?_)
  obtain ⟨n, tn, owner, behind, tb, d, sl', cd, ho, hc, hm, hb, hie⟩ := slot_of S.kin A.slot
  have L0 := I.type (M := model g.prog g.w)
  have L1 := looks_mroIn (M := model g.prog g.w) S.kin hm
  have L2 : Looks (model g.prog g.w) s.heap (Builtin.Slots.slotNamesOf (.ref C)) cd.slotNames := (looks_clsIn S.kin hc).andThen .now
  have hx := I.at_
  have hlen := slR_len hr
  have sle : sl.length = xs.length := hlen
  have newsl : (((nodeObj C dx sl).slots ++ Array.replicate (i + 1 - (nodeObj C dx sl).slots.size) none).setIfInBounds i (some u)) = ((if i < sl.length then sl.set i (some u) else sl ++ [some u]) : List (Option Value)).toArray := by
    show ((sl.toArray ++ Array.replicate (i + 1 - sl.toArray.size) none).setIfInBounds i (some u)) = _
    split
    · rename_i q
      have e0 : i + 1 - sl.toArray.size = 0 := by simp; exact o78 q
      rw [e0]
      simp
    · have e0 : i = sl.length := by exact o311 hlen hi (by assumption)
      subst e0
      have e1 : sl.length + 1 - sl.toArray.size = 1 := by simp
      rw [e1]
      apply Array.toList_inj.mp
      simp
  let f : Obj → Obj := fun o => { o with slots := (o.slots ++ Array.replicate (i + 1 - o.slots.size) none).setIfInBounds i (some u) }
  have D' : (s.heap.update a f).get? a = some (nodeObj C dx (if i < sl.length then sl.set i (some u) else sl ++ [some u])) := by
    rw [Heap.get?_update_self f hx rfl]
    show some ({ nodeObj C dx sl with slots := _ } : Obj) = _
    rw [newsl]
  have Cg : Chg (· = a) s.heap (s.heap.update a f) := .sameBut ⟨Heap.size_update .., fun b q => Heap.get?_update_other _ _ (Ne.symm q)⟩ D' fun o₀ _ _ e q => by rw [hx] at e; cases e; cases q
  have mn : Mono s.heap (s.heap.update a f) := ⟨fun b o' i' e => Cg.same b o' e fun q => (by subst q; rw [hx] at e; cases e; have := i'.cls; cases this), Cg.dct⟩
  have hda : dx ≠ a := fun q => by subst q; rw [hx] at hdx; cases hdx; cases dd
  have hr' : SlR (s.heap.update a f) (setS xs i x) (if i < sl.length then sl.set i (some u) else sl ++ [some u]) := by
    unfold setS
    rw [sle]
    split
    · exact slR_set (ru.mono mn.tup) (SlR.mono mn _ _ hr)
    · exact slR_app (ru.mono mn.tup) (SlR.mono mn _ _ hr)
  obtain ⟨S', K'⟩ := S.set (t := s.toks + 1) Cg ha (o' := .node C (setS xs i x)) ⟨dx, _, D', hr', o, esd, epd, (Heap.get?_update_other _ _ (Ne.symm hda)).trans hdx, dd⟩
  have fin : OkP g F EqR (fun (_ : Unit) m H => Q m H) s.heap H () { s with heap := s.heap.update a f, toks := s.toks + 1 } := ⟨(), m, _, rfl, S', K', h⟩
  clear S' K' hr' D' Cg mn newsl
  obtain ⟨hh, gg, dr, t, os⟩ := s
  dsimp only at ho hx L0 L1 L2
  have f0 := looks_field (M := model g.prog g.w) ho 0 (v := .str n tn) rfl
  have f1 := looks_field (M := model g.prog g.w) ho 1 (v := owner) rfl
  have f3 := looks_field (M := model g.prog g.w) ho 3 (v := .builtin "proto.slot#set") rfl
  have f4 := looks_field (M := model g.prog g.w) ho 4 (v := .int behind tb) rfl
  refine codeAny_call_builtin KF.slot_mset.plain KF.entry_mset (KF.slot_mset.check _ _ _ _ _ _ _ _ ⟨_, ho, rfl⟩ (KF.args_mset _ _ _) ?_)
  have f5 : Looks (model g.prog g.w) hh (descrItself (.ref p)) [.ref p] := ((Looks.ld (part := none) ho).andThen .now).andThen (Looks.of_pure (by kernel_rfl))
  repeat lk
  refine ⟨Code.quiet_builtin _ (by decide +kernel), codeAny_builtin KF.entry_slotset ?_⟩
  repeat lk
  rw [if_neg hb]
  refine wpAny_pure (wpAny_bind ?_)
  unfold setSlotAt
  dsimp only
  rw [if_neg (by rw [sizeLine_eq]; have := A.small; exact o79 hie this)]
  rw [← hie]
  exact wpAny_updatePart hx (wpAny_pure fin)
end
end Mine
end
section
open PySem PySem.W PySem.Calls PyProof.Rows
set_option linter.unusedSectionVars false
set_option linter.unusedVariables false
namespace Mine
variable [ζ : Dead]
section
variable {g : G} {F : Fm} {m : Loc} {H : AH} {s : Shared} {X : Value → List V → Loc → AH → Prop} {Q : V → Loc → AH → Prop}
noncomputable def WCode (g : G) (F : Fm) (f : Value) (xs : List V) (m : Loc) (H : AH) (Q : V → Loc → AH → Prop) (X : Value → List V → Loc → AH → Prop) : Prop :=
  ∀ s vs, St g F m H s → VRs s.heap xs vs → codeAny (model g.prog g.w) F.A (.call f ⟨vs, []⟩) (fun r s' => match r with | .ok (.ret v) => OkP g F VR Q s.heap H v s' | .ok _ => False | .error e => ErP g F X s.heap H e s') s
theorem WCode.call {f : Value} {xs : List V} (h : WCode g F f xs m H Q X) : WC g F f xs m H Q X := fun s vs S r => wpAny_call (h s vs S r)
noncomputable def Fm.up (F : Fm) (A : Around) : Fm := { F with A := A, lvl := F.lvl + 1 }
theorem St.up {c : Code} (S : St g F m H s) (hl : F.lvl < 100) (hw : c.weight ≤ 1) (hu : c.cUnits ≤ 10) (he : c.envs = []) (hg : c.guards = []) : St g (F.up (F.A.under c)) m H s := by
  refine ⟨S.base, S.obj, ⟨S.loc.kind, S.loc.val, S.loc.cell, S.loc.apart⟩, S.locm, S.mine, S.frs, S.frd, S.frame, ?_, S.gens, S.os, ?_, S.envg, S.dead⟩
  · show pushEnvs c.envs F.A.frames = some F.stack
    rw [he, S.Afr]; rfl
  · obtain ⟨r1, r2, r3, r4⟩ := S.room
    refine ⟨?_, ?_, hl, ?_⟩
    · show F.A.depth + c.weight ≤ 310 + 3 * (F.lvl + 1); exact o80 r1 hw
    · show F.A.units + c.cUnits ≤ 100 + 20 * (F.lvl + 1); exact o81 r2 hu
    · show pushGuards c.guards F.A.guards = some []
      rw [hg, r4]; rfl
theorem St.down {A : Around} {m' : Loc} {H' : AH} {s' : Shared} (S : St g F m H s) (S' : St g (F.up A) m' H' s') : St g F m' H' s' :=
  ⟨S'.base, S'.obj, ⟨S'.loc.kind, S'.loc.val, S'.loc.cell, S'.loc.apart⟩, S'.locm, S'.mine, S'.frs, S'.frd, S'.frame, S.Afr, S'.gens, S'.os, S.room, S'.envg, S'.dead⟩
theorem tc_weight {C : Addr} {vs : List Value} : (Code.builtin "type.__call__" ⟨.ref C :: vs, []⟩).weight ≤ 1 := Nat.le_of_eq rfl
theorem tc_units {C : Addr} {vs : List Value} : (Code.builtin "type.__call__" ⟨.ref C :: vs, []⟩).cUnits ≤ 10 := by
  have : (Code.builtin "type.__call__" ⟨.ref C :: vs, []⟩).cUnits = 1 := rfl
  exact o408 this
theorem made {C fI : Addr} {xs : List V} (hm : makesIn g.K C = true) (hi : findIn g.K (.ref C) "__init__" = some (some (.ref fI))) (hf : typeIn g.K (.ref fI) = some (.type "function")) (hl : F.lvl < 100) {s : Shared} {vs : List Value} (S : St g F m H s) (r : VRs s.heap xs vs) (H₂ : AH)
    (hS : St g F m H₂ { s with heap := (s.heap.push emptyDict).push (instObj C s.heap.objs.size) } ∧ Keep F s.heap H ((s.heap.push emptyDict).push (instObj C s.heap.objs.size)) H₂)
    (h : ∀ A, A.handled = F.A.handled → WCode g (F.up A) (.ref fI) (.ref (s.heap.objs.size + 1) :: xs) m H₂ (fun r m H => r = .none ∧ Q (.ref (s.heap.objs.size + 1)) m H) X) :
    codeAny (model g.prog g.w) F.A (.call (.ref C) ⟨vs, []⟩) (fun r s' => match r with | .ok (.ret v) => OkP g F VR Q s.heap H v s' | .ok _ => False | .error e => ErP g F X s.heap H e s') s := by
  obtain ⟨S₂, K₂⟩ := hS
  obtain ⟨hh, gg, d, t, os⟩ := s
  refine make_core (makes_of S.kin hm) (looks_findIn S.kin hi) (fun self => bind_fn S.kin self hf) (.inl rfl) ?_
  have kp : ∀ b o, hh.get? b = some o → ((hh.push emptyDict).push (instObj C hh.objs.size)).get? b = some o := fun _ _ e => Heap.get?_push_of_some _ (Heap.get?_push_of_some _ e)
  refine codeAny_mono (h (F.A.under (.builtin "type.__call__" ⟨.ref C :: vs, []⟩)) rfl ⟨_, gg, d, t, os⟩ (.ref (hh.objs.size + 1) :: vs) (S₂.up hl tc_weight tc_units rfl rfl) (.cons (.ref' _) (r.mono fun _ _ _ e => kp _ _ e))) fun r s' z => ?_
  unfold InitBack
  rcases r with e | (v | _ | _ | _)
  · obtain ⟨c, as, m', H', f, S', K', q⟩ := z
    exact ⟨c, as, m', H', f.since (fun b o e => ⟨o, kp b o e⟩), S₂.down S', K₂.trans ⟨K'.alive, K'.dct, K'.same⟩, q⟩
  all_goals first
    | exact z.elim
    | (obtain ⟨b, m', H', rb, S', K', e, q⟩ := z
       subst e
       rw [VR.none_iff] at rb
       exact ⟨rb, .ref _, m', H', .ref' _, S₂.down S', K₂.trans ⟨K'.alive, K'.dct, K'.same⟩, q⟩)
theorem c_inst {C fI : Addr} {xs : List V} (hm : makesIn g.K C = true) (hi : findIn g.K (.ref C) "__init__" = some (some (.ref fI))) (hf : typeIn g.K (.ref fI) = some (.type "function")) (hl : F.lvl < 100)
    (h : ∀ A, A.handled = F.A.handled → ∀ x dx, H x = none → H dx = none → dx ≠ x → WCode g (F.up A) (.ref fI) (.ref x :: xs) m (put (put H dx (.ns [])) x (.inst C dx)) (fun r m H => r = .none ∧ Q (.ref x) m H) X) : WCode g F (.ref C) xs m H Q X := fun s vs S r => by
  have n0 := S.lt (Nat.le_refl s.heap.objs.size)
  have n1 := S.lt (Nat.le_succ s.heap.objs.size)
  have ne : s.heap.objs.size ≠ s.heap.objs.size + 1 := Nat.ne_of_lt (Nat.lt_succ_self _)
  obtain ⟨S₁, K₁⟩ := S.new (t := s.toks) (h' := s.heap.push emptyDict) (o' := .ns []) (fun _ _ e => Heap.get?_push_of_some _ e) n0.2.2 ⟨[], 0, Heap.get?_push_size _ rfl, rfl⟩
  have hsz : (s.heap.push emptyDict).objs.size = s.heap.objs.size + 1 := Heap.size_push ..
  have hN : (s.heap.push emptyDict).get? (s.heap.objs.size + 1) = none := Heap.get?_none_of_le (Nat.le_of_eq hsz)
  obtain ⟨S₂, K₂⟩ := S₁.new (t := s.toks) (h' := (s.heap.push emptyDict).push (instObj C s.heap.objs.size)) (o' := .inst C s.heap.objs.size) (fun _ _ e => Heap.get?_push_of_some _ e) hN (by rw [← hsz]; exact Heap.get?_push_size _ rfl)
  exact made hm hi hf hl S r _ ⟨S₂, K₁.trans K₂⟩ fun A hA => h A hA _ _ n1.1 n0.1 ne
theorem c_node {C fI : Addr} {xs : List V} (hm : makesIn g.K C = true) (hi : findIn g.K (.ref C) "__init__" = some (some (.ref fI))) (hf : typeIn g.K (.ref fI) = some (.type "function")) (hl : F.lvl < 100)
    (h : ∀ A, A.handled = F.A.handled → ∀ x, H x = none → WCode g (F.up A) (.ref fI) (.ref x :: xs) m (put H x (.node C [])) (fun r m H => r = .none ∧ Q (.ref x) m H) X) : WCode g F (.ref C) xs m H Q X := fun s vs S r => by
  have n0 := S.lt (Nat.le_refl s.heap.objs.size)
  have n1 := S.lt (Nat.le_succ s.heap.objs.size)
  obtain ⟨S₁, K₁⟩ := S.ext (t := s.toks) (h' := s.heap.push emptyDict) (fun _ _ e => Heap.get?_push_of_some _ e)
  have hsz : (s.heap.push emptyDict).objs.size = s.heap.objs.size + 1 := Heap.size_push ..
  have hN : (s.heap.push emptyDict).get? (s.heap.objs.size + 1) = none := Heap.get?_none_of_le (Nat.le_of_eq hsz)
  have hD : ((s.heap.push emptyDict).push (instObj C s.heap.objs.size)).get? s.heap.objs.size = some emptyDict := Heap.get?_push_of_some _ (Heap.get?_push_size _ rfl)
  obtain ⟨S₂, K₂⟩ := S₁.new (t := s.toks) (h' := (s.heap.push emptyDict).push (instObj C s.heap.objs.size)) (o' := .node C []) (fun _ _ e => Heap.get?_push_of_some _ e) hN
    ⟨s.heap.objs.size, [], by rw [← hsz]; exact Heap.get?_push_size _ rfl, rfl, _, _, _, hD, rfl⟩
  exact made hm hi hf hl S r _ ⟨S₂, K₁.trans K₂⟩ fun A hA => h A hA _ n1.1
end
end Mine
end
section
open PySem PySem.W PySem.Calls PyProof.Rows PySem.SeqAt
set_option linter.unusedSectionVars false
set_option linter.unusedVariables false
namespace Mine
variable [ζ : Dead]
theorem VR.wk {h : Heap} {x : V} {v : Value} (r : VR h x v) : VR h (wk x) v := by
  cases x with
  | pint n => rw [VR.pint_iff] at r; obtain ⟨t, rfl⟩ := r; exact VR.int_iff.mpr ⟨_, rfl⟩
  | pstr n => rw [VR.pstr_iff] at r; obtain ⟨t, rfl⟩ := r; exact VR.str_iff.mpr ⟨_, rfl⟩
  | _ => exact r
noncomputable def rk : Value → Option V
  | .none => some .none
  | .bool b => some (.int (if b then 1 else 0))
  | .int n _ => some (.int n)
  | .str s _ => some (.str s)
  | _ => Option.none
theorem VR.rk {h : Heap} {x : V} {v : Value} (d : dat x = true) (n : ∀ xs, x ≠ .tup xs) (r : VR h x v) : rk v = some (ck x) := by
  cases x with
  | none => rw [VR.none_iff] at r; subst r; rw [ck_none]; rfl
  | bool b => rw [VR.bool_iff] at r; subst r; rw [ck_bool]; rfl
  | int b => rw [VR.int_iff] at r; obtain ⟨_, rfl⟩ := r; rw [ck_int]; rfl
  | str b => rw [VR.str_iff] at r; obtain ⟨_, rfl⟩ := r; rw [ck_str]; rfl
  | pint b => rw [VR.pint_iff] at r; obtain ⟨_, rfl⟩ := r; rw [ck_pint]; rfl
  | pstr b => rw [VR.pstr_iff] at r; obtain ⟨_, rfl⟩ := r; rw [ck_pstr]; rfl
  | tup xs => exact absurd rfl (n xs)
  | _ => unfold dat at d; cases d
theorem VR.inj0 {h : Heap} {x y : V} {v : Value} (nx : ∀ xs, x ≠ .tup xs) (dx : dat x = true) (dy : dat y = true) (rx : VR h x v) (ry : VR h y v) : ck x = ck y := by
  have e := rx.rk dx nx
  by_cases z : ∃ ys, y = .tup ys
  · obtain ⟨ys, rfl⟩ := z
    replace ry := VR.tup_of ry
    obtain ⟨_, _, _, rfl, _⟩ := ry
    cases e
  · have e' := ry.rk dy fun ys q => z ⟨ys, q⟩
    rw [e] at e'
    exact Option.some.inj e'
mutual
theorem VR.inj {h : Heap} : ∀ (x y : V) (v : Value), dat x = true → dat y = true → VR h x v → VR h y v → ck x = ck y
  | .none, y, v, dx, dy, rx, ry => VR.inj0 (fun _ q => nomatch q) dx dy rx ry
  | .bool _, y, v, dx, dy, rx, ry => VR.inj0 (fun _ q => nomatch q) dx dy rx ry
  | .int _, y, v, dx, dy, rx, ry => VR.inj0 (fun _ q => nomatch q) dx dy rx ry
  | .str _, y, v, dx, dy, rx, ry => VR.inj0 (fun _ q => nomatch q) dx dy rx ry
  | .pint _, y, v, dx, dy, rx, ry => VR.inj0 (fun _ q => nomatch q) dx dy rx ry
  | .pstr _, y, v, dx, dy, rx, ry => VR.inj0 (fun _ q => nomatch q) dx dy rx ry
  | .tup xs, y, v, dx, dy, rx, ry => by
    by_cases z : ∃ ys, y = .tup ys
    · obtain ⟨ys, rfl⟩ := z
      replace rx := VR.tup_of rx; replace ry := VR.tup_of ry
      obtain ⟨l, vs, ep, rfl, e, rx'⟩ := rx
      obtain ⟨l', vs', ep', q, e', ry'⟩ := ry
      cases q
      rw [e] at e'
      have hv : vs = vs' := by
        have := congrArg (fun o : Option Obj => o.map (·.data)) e'
        simp only [Option.map_some, Option.some.injEq, Data.seq.injEq] at this
        simpa using congrArg Array.toList this.1
      subst hv
      rw [ck_tup, ck_tup, VRs.inj xs ys vs (by unfold dat at dx; exact dx) (by unfold dat at dy; exact dy) rx' ry']
    · exact (VR.inj0 (fun ys q => z ⟨ys, q⟩) dy dx ry rx).symm
  | .rng _ _ _, _, _, dx, _, _, _ => by unfold dat at dx; cases dx
  | .view _ _, _, _, dx, _, _, _ => by unfold dat at dx; cases dx
  | .ref _, _, _, dx, _, _, _ => by unfold dat at dx; cases dx
  | .cst _, _, _, dx, _, _, _ => by unfold dat at dx; cases dx
theorem VRs.inj {h : Heap} : ∀ (xs ys : List V) (vs : List Value), dats xs = true → dats ys = true → VRs h xs vs → VRs h ys vs → cks xs = cks ys
  | [], ys, vs, _, _, rx, ry => by
    rw [VRs.nil_iff] at rx; subst rx
    cases ys with
    | nil => rfl
    | cons y ys => obtain ⟨_, _, q, _⟩ := ry.uncons; cases q
  | x :: xs, ys, vs, dx, dy, rx, ry => by
    obtain ⟨v, r, rfl, hx, hr⟩ := rx.uncons
    cases ys with
    | nil => rw [VRs.nil_iff] at ry; cases ry
    | cons y ys =>
      obtain ⟨v', r', q, hy, hr'⟩ := ry.uncons
      cases q
      unfold dats at dx dy
      rw [Bool.and_eq_true] at dx dy
      unfold cks
      rw [VR.inj x y v dx.1 dy.1 hx hy, VRs.inj xs ys r dx.2 dy.2 hr hr']
end
theorem VRs.at {h : Heap} {xs : List V} {vs : List Value} (r : VRs h xs vs) {j : Nat} (hj : j < vs.length) : VR h (xs.getD j .none) vs[j] := by
  have hx : j < xs.length := by rw [← r.length]; exact hj
  obtain ⟨v, e, rv⟩ := r.getElem? (List.getElem?_eq_getElem hx)
  rw [List.getElem?_eq_getElem hj] at e
  cases e
  rw [getD_of hx]; exact rv
structure Kinds (P : Value → Value → Bool → Prop) (s : Shared) : Prop where
  nn : P .none .none true
  nb : ∀ b, P .none (.bool b) false
  ni : ∀ b t, P .none (.int b t) false
  ns : ∀ b t, P .none (.str b t) false
  nt : ∀ l (vs : Array Value), s.heap.IsTuple l vs → P .none (.ref l) false
  bn : ∀ a, P (.bool a) .none false
  bb : ∀ a b, P (.bool a) (.bool b) (a == b)
  bi : ∀ a b t, P (.bool a) (.int b t) ((if a then 1 else 0) == b)
  bs : ∀ a b t, P (.bool a) (.str b t) false
  bt : ∀ a l (vs : Array Value), s.heap.IsTuple l vs → P (.bool a) (.ref l) false
  in' : ∀ a t, P (.int a t) .none false
  ib : ∀ a t b, P (.int a t) (.bool b) (a == (if b then 1 else 0))
  ii : ∀ a t b u, P (.int a t) (.int b u) (a == b)
  is' : ∀ a t b u, P (.int a t) (.str b u) false
  it : ∀ a t l (vs : Array Value), s.heap.IsTuple l vs → P (.int a t) (.ref l) false
  sn : ∀ a t, P (.str a t) .none false
  sb : ∀ a t b, P (.str a t) (.bool b) false
  si : ∀ a t b u, P (.str a t) (.int b u) false
  ss : ∀ a t b u, P (.str a t) (.str b u) (a == b)
  st : ∀ a t l (vs : Array Value), s.heap.IsTuple l vs → P (.str a t) (.ref l) false
  tn : ∀ l (vs : Array Value), s.heap.IsTuple l vs → P (.ref l) .none false
  tb : ∀ l (vs : Array Value) b, s.heap.IsTuple l vs → P (.ref l) (.bool b) false
  ti : ∀ l (vs : Array Value) b t, s.heap.IsTuple l vs → P (.ref l) (.int b t) false
  ts : ∀ l (vs : Array Value) b t, s.heap.IsTuple l vs → P (.ref l) (.str b t) false
theorem isT {s : Shared} {x : List V} {v : Value} (r : VR s.heap (.tup x) v) : ∃ l vs, v = .ref l ∧ s.heap.IsTuple l vs.toArray ∧ VRs s.heap x vs := by
  replace r := VR.tup_of r
  obtain ⟨l, vs, ep, rfl, e, q⟩ := r
  exact ⟨l, vs, rfl, ⟨_, e, rfl, ep, rfl⟩, q⟩
theorem kinds0 {P : Value → Value → Bool → Prop} {s : Shared} (K : Kinds P s) {x y : V} {v u : Value} (nx : wk x = x) (ny : wk y = y) (dx : dat x = true) (dy : dat y = true) (rx : VR s.heap x v) (ry : VR s.heap y u)
    (TT : ∀ a b lx ly (vsx vsy : List Value), x = .tup a → y = .tup b → s.heap.IsTuple lx vsx.toArray → s.heap.IsTuple ly vsy.toArray → VRs s.heap a vsx → VRs s.heap b vsy → P (.ref lx) (.ref ly) (veqs a b)) : P v u (veq x y) := by
  cases x with
  | none =>
    rw [VR.none_iff] at rx; subst rx
    cases y with
    | none => rw [VR.none_iff] at ry; subst ry; exact K.nn
    | bool b => rw [VR.bool_iff] at ry; subst ry; exact K.nb _
    | int b => rw [VR.int_iff] at ry; obtain ⟨_, rfl⟩ := ry; exact K.ni _ _
    | str b => rw [VR.str_iff] at ry; obtain ⟨_, rfl⟩ := ry; exact K.ns _ _
    | tup b => obtain ⟨l, vs, rfl, T, q⟩ := isT ry; exact K.nt _ _ T
    | pint => cases ny
    | pstr => cases ny
    | _ => cases dy
  | bool a =>
    rw [VR.bool_iff] at rx; subst rx
    cases y with
    | none => rw [VR.none_iff] at ry; subst ry; exact K.bn _
    | bool b => rw [VR.bool_iff] at ry; subst ry; rw [veq_bool]; exact K.bb _ _
    | int b => rw [VR.int_iff] at ry; obtain ⟨_, rfl⟩ := ry; exact K.bi _ _ _
    | str b => rw [VR.str_iff] at ry; obtain ⟨_, rfl⟩ := ry; exact K.bs _ _ _
    | tup b => obtain ⟨l, vs, rfl, T, q⟩ := isT ry; exact K.bt _ _ _ T
    | pint => cases ny
    | pstr => cases ny
    | _ => cases dy
  | int a =>
    rw [VR.int_iff] at rx; obtain ⟨_, rfl⟩ := rx
    cases y with
    | none => rw [VR.none_iff] at ry; subst ry; exact K.in' _ _
    | bool b => rw [VR.bool_iff] at ry; subst ry; exact K.ib _ _ _
    | int b => rw [VR.int_iff] at ry; obtain ⟨_, rfl⟩ := ry; exact K.ii _ _ _ _
    | str b => rw [VR.str_iff] at ry; obtain ⟨_, rfl⟩ := ry; exact K.is' _ _ _ _
    | tup b => obtain ⟨l, vs, rfl, T, q⟩ := isT ry; exact K.it _ _ _ _ T
    | pint => cases ny
    | pstr => cases ny
    | _ => cases dy
  | str a =>
    rw [VR.str_iff] at rx; obtain ⟨_, rfl⟩ := rx
    cases y with
    | none => rw [VR.none_iff] at ry; subst ry; exact K.sn _ _
    | bool b => rw [VR.bool_iff] at ry; subst ry; exact K.sb _ _ _
    | int b => rw [VR.int_iff] at ry; obtain ⟨_, rfl⟩ := ry; exact K.si _ _ _ _
    | str b => rw [VR.str_iff] at ry; obtain ⟨_, rfl⟩ := ry; exact K.ss _ _ _ _
    | tup b => obtain ⟨l, vs, rfl, T, q⟩ := isT ry; exact K.st _ _ _ _ T
    | pint => cases ny
    | pstr => cases ny
    | _ => cases dy
  | tup a =>
    obtain ⟨lx, vsx, rfl, Tx, qx⟩ := isT rx
    cases y with
    | none => rw [VR.none_iff] at ry; subst ry; exact K.tn _ _ Tx
    | bool b => rw [VR.bool_iff] at ry; subst ry; exact K.tb _ _ _ Tx
    | int b => rw [VR.int_iff] at ry; obtain ⟨_, rfl⟩ := ry; exact K.ti _ _ _ _ Tx
    | str b => rw [VR.str_iff] at ry; obtain ⟨_, rfl⟩ := ry; exact K.ts _ _ _ _ Tx
    | tup b => obtain ⟨l, vs, rfl, T, q⟩ := isT ry; exact TT _ _ _ _ _ _ rfl rfl Tx T qx q
    | pint => cases ny
    | pstr => cases ny
    | _ => cases dy
  | pint => cases nx
  | pstr => cases nx
  | _ => cases dx
theorem kinds {P : Value → Value → Bool → Prop} {s : Shared} (K : Kinds P s) {x y : V} {v u : Value} (dx : dat x = true) (dy : dat y = true) (rx : VR s.heap x v) (ry : VR s.heap y u)
    (TT : ∀ a b lx ly (vsx vsy : List Value), x = .tup a → y = .tup b → s.heap.IsTuple lx vsx.toArray → s.heap.IsTuple ly vsy.toArray → VRs s.heap a vsx → VRs s.heap b vsy → P (.ref lx) (.ref ly) (veqs a b)) : P v u (veq x y) := by
  have ht : ∀ {x : V} {a : List V}, wk x = .tup a → x = .tup a := fun {x a} e => by cases x <;> first | exact e | cases e
  rw [← veq_wk]
  exact kinds0 K (wk_wk x) (wk_wk y) (by rw [dat_wk]; exact dx) (by rw [dat_wk]; exact dy) rx.wk ry.wk fun a b lx ly vsx vsy ex ey => TT a b lx ly vsx vsy (ht ex) (ht ey)
theorem kindsE {A : Around} {s : Shared} (hu : A.units < cLine) : Kinds (EqAt A s) s :=
  ⟨EqAt.same _, EqAt.none_bool, EqAt.none_int, EqAt.none_str, fun _ _ T => EqAt.none_tuple T hu, EqAt.bool_none, EqAt.bool_bool, EqAt.bool_int, EqAt.bool_str, fun _ _ _ T => EqAt.bool_tuple _ T hu,
    EqAt.int_none, EqAt.int_bool, EqAt.int_int, EqAt.int_str, fun _ _ _ _ T => EqAt.int_tuple _ _ T hu, EqAt.str_none, EqAt.str_bool, EqAt.str_int, EqAt.str_str, fun _ _ _ _ T => EqAt.str_tuple _ _ T hu,
    fun _ _ T => EqAt.tuple_none T hu, fun _ _ _ T => EqAt.tuple_bool _ T hu, fun _ _ _ _ T => EqAt.tuple_int _ _ T hu, fun _ _ _ _ T => EqAt.tuple_str _ _ T hu⟩
theorem kindsR {A : Around} {s : Shared} (hu : A.units < cLine) : Kinds (RcAt A s) s :=
  ⟨RcAt.none_none, RcAt.none_bool, RcAt.none_int, RcAt.none_str, fun _ _ T => RcAt.none_tuple T hu, RcAt.bool_none, RcAt.bool_bool, RcAt.bool_int, RcAt.bool_str, fun _ _ _ T => RcAt.bool_tuple _ T hu,
    RcAt.int_none, RcAt.int_bool, RcAt.int_int, RcAt.int_str, fun _ _ _ _ T => RcAt.int_tuple _ _ T hu, RcAt.str_none, RcAt.str_bool, RcAt.str_int, RcAt.str_str, fun _ _ _ _ T => RcAt.str_tuple _ _ T hu,
    fun _ _ T => RcAt.tuple_none T hu, fun _ _ _ T => RcAt.tuple_bool _ T hu, fun _ _ _ _ T => RcAt.tuple_int _ _ T hu, fun _ _ _ _ T => RcAt.tuple_str _ _ T hu⟩
theorem kindsN {A : Around} {s : Shared} (hu : A.units < cLine) : Kinds (fun v u b => RcNeAt A s v u (!b)) s :=
  ⟨RcNeAt.none_none, RcNeAt.none_bool, RcNeAt.none_int, RcNeAt.none_str, fun _ _ T => RcNeAt.none_tuple T hu, RcNeAt.bool_none, RcNeAt.bool_bool, RcNeAt.bool_int, RcNeAt.bool_str, fun _ _ _ T => RcNeAt.bool_tuple _ T hu,
    RcNeAt.int_none, RcNeAt.int_bool, RcNeAt.int_int, RcNeAt.int_str, fun _ _ _ _ T => RcNeAt.int_tuple _ _ T hu, RcNeAt.str_none, RcNeAt.str_bool, RcNeAt.str_int, RcNeAt.str_str, fun _ _ _ _ T => RcNeAt.str_tuple _ _ T hu,
    fun _ _ T => RcNeAt.tuple_none T hu, fun _ _ _ T => RcNeAt.tuple_bool _ T hu, fun _ _ _ _ T => RcNeAt.tuple_int _ _ T hu, fun _ _ _ _ T => RcNeAt.tuple_str _ _ T hu⟩
theorem eq_at : ∀ (n : Nat) (A : Around) (s : Shared) (x y : V) (v u : Value), dep x ≤ n → dat x = true → dat y = true → A.units + n < cLine → VR s.heap x v → VR s.heap y u → EqAt A s v u (veq x y) := by
  intro n
  induction n with
  | zero =>
    intro A s x y v u hn dx dy hu rx ry
    refine kinds (kindsE hu) dx dy rx ry fun a b lx ly vsx vsy ex ey _ _ _ _ => ?_
    subst ex
    exact absurd hn (Nat.not_succ_le_zero _)
  | succ n ih =>
    intro A s x y v u hn dx dy hu rx ry
    refine kinds (kindsE (by exact o83 hu)) dx dy rx ry fun a b lx ly vsx vsy ex ey Tx Ty qx qy => ?_
    subst ex ey
    have hn : deps a ≤ n := Nat.le_of_succ_le_succ hn
    have dx : dats a = true := dx
    have dy : dats b = true := dy
    by_cases hl : lx = ly
    · subst hl
      have hv : vsx = vsy := by
        obtain ⟨o, e, _, n1, d1⟩ := Tx
        obtain ⟨o', e', _, n2, d2⟩ := Ty
        rw [e] at e'; cases e'
        rw [d1] at d2
        simp only [Data.seq.injEq] at d2
        simpa using congrArg Array.toList d2.1
      subst hv
      have := VRs.inj a b vsx dx dy qx qy
      rw [(veqs_cks a b dx dy).mpr this]
      exact EqAt.same _
    · refine EqAt.of_refs hl ?_
      have := RcAt.tuples (A := A) (e := fun j => veq (a.getD j .none) (b.getD j .none)) Tx Ty (by exact o83 hu) fun j h1 h2 => ?_
      · rw [← veqs_min]
        simp only [List.size_toArray, qx.length, qy.length] at this
        exact this
      · simp only [List.size_toArray] at h1 h2
        simp only [List.getElem_toArray]
        exact ih A.in1 s _ _ _ _ (Nat.le_trans deps_get hn) (dats_get dx) (dats_get dy) (by show A.units + 1 + n < cLine; exact o84 hu) (qx.at h1) (qy.at h2)
theorem rc_at {A : Around} {s : Shared} {x y : V} {v u : Value} (hn : True) (dx : dat x = true) (dy : dat y = true) (hu : A.units + (dep x + 1) < cLine) (rx : VR s.heap x v) (ry : VR s.heap y u) : RcAt A s v u (veq x y) := by
  have hu' : A.units < cLine := by exact o83 hu
  refine kinds (kindsR hu') dx dy rx ry fun a b lx ly vsx vsy ex ey Tx Ty qx qy => ?_
  subst ex ey
  have dx : dats a = true := dx
  have dy : dats b = true := dy
  have hu : A.units + (deps a + 1 + 1) < cLine := hu
  have := RcAt.tuples (A := A) (e := fun j => veq (a.getD j .none) (b.getD j .none)) Tx Ty hu' fun j h1 h2 => ?_
  · rw [← veqs_min]
    simp only [List.size_toArray, qx.length, qy.length] at this
    exact this
  · simp only [List.size_toArray] at h1 h2
    simp only [List.getElem_toArray]
    exact eq_at (deps a) A.in1 s _ _ _ _ deps_get (dats_get dx) (dats_get dy) (by show A.units + 1 + deps a < cLine; exact o85 hu) (qx.at h1) (qy.at h2)
theorem rcne_at {A : Around} {s : Shared} {x y : V} {v u : Value} (hn : True) (dx : dat x = true) (dy : dat y = true) (hu : A.units + (dep x + 1) < cLine) (rx : VR s.heap x v) (ry : VR s.heap y u) : RcNeAt A s v u (!veq x y) := by
  have hu' : A.units < cLine := by exact o83 hu
  refine kinds (kindsN hu') dx dy rx ry fun a b lx ly vsx vsy ex ey Tx Ty qx qy => ?_
  subst ex ey
  have dx : dats a = true := dx
  have dy : dats b = true := dy
  have hu : A.units + (deps a + 1 + 1) < cLine := hu
  have := RcNeAt.tuples (A := A) (e := fun j => veq (a.getD j .none) (b.getD j .none)) Tx Ty hu' fun j h1 h2 => ?_
  · show RcNeAt A s _ _ (!veqs a b)
    rw [← veqs_min]
    simp only [List.size_toArray, qx.length, qy.length] at this
    exact this
  · simp only [List.size_toArray] at h1 h2
    simp only [List.getElem_toArray]
    exact eq_at (deps a) A.in1 s _ _ _ _ deps_get (dats_get dx) (dats_get dy) (by show A.units + 1 + deps a < cLine; exact o85 hu) (qx.at h1) (qy.at h2)
end Mine
end
section
open PySem PySem.W PySem.Calls PyProof.Rows PySem.SeqAt
set_option linter.unusedSectionVars false
set_option linter.unusedVariables false
set_option maxRecDepth 100000
namespace Mine
variable [ζ : Dead]
section
variable {prog : Program} {w : World} {E : Value → Shared → Prop}
mutual
theorem pyHash_V : ∀ (x : V) (v : Value) (A : Around) (s : Shared) (Q : Int → Shared → Prop), dat x = true → VR s.heap x v → A.units + dep x < cLine →
    (∀ tk, Q (hV w.params x) { s with toks := tk }) → wpAny (model prog w) A (pyHash v) Q E s
  | .none, v, A, s, Q, _, r, hu, h => by
    rw [VR.none_iff] at r; subst r
    exact pyHash_slot (T := "NoneType") rfl F.slot_NoneType_hash F.entry_NoneType_hash (F.args_NoneType_hash_1 _) (beq_builtin_none _) (.inr (by exact o86 hu)) (wpAny_bind (wpAny_pure (wpAny_bind (wpAny_mkInt (wpAny_pure ⟨_, _, rfl, h _⟩)))))
  | .bool b, v, A, s, Q, _, r, hu, h => by
    rw [VR.bool_iff] at r; subst r
    refine pyHash_slot (T := "bool") rfl F.slot_bool_hash entry_int_hash (args_int_hash _) (beq_builtin_none _) (.inr (by exact o86 hu)) ?_
    cases b
    · exact (show wpAny _ _ (do ret (← mkInt 0)) _ _ s from wpAny_bind (wpAny_mkInt (wpAny_pure ⟨_, _, rfl, h _⟩)))
    · exact (show wpAny _ _ (do ret (← mkInt 1)) _ _ s from wpAny_bind (wpAny_mkInt (wpAny_pure ⟨_, _, rfl, h _⟩)))
  | .int i, v, A, s, Q, _, r, _, h => by rw [VR.int_iff] at r; obtain ⟨t, rfl⟩ := r; exact wpAny_pyHash_int (hashW_int w.params i ▸ h _)
  | .str y, v, A, s, Q, _, r, _, h => by rw [VR.str_iff] at r; obtain ⟨t, rfl⟩ := r; exact wpAny_pyHash_str (h _)
  | .tup xs, v, A, s, Q, d, r, hu, h => by
    replace r := VR.tup_of r
    obtain ⟨a, vs, ep, rfl, hg, hw⟩ := r
    refine pyHash_slot (T := "tuple") ⟨_, hg, rfl⟩ F.slot_tuple_hash F.entry_tuple_hash (F.args_tuple_hash_1 _) (beq_builtin_none _) (.inr (by exact o83 hu)) ?_
    show wpAny _ _ (Builtin.Tuple.tupleItemsOf (.ref a) >>= _) _ _ s
    refine wpAny_bind (wpAny_tupleItemsOf hg rfl ?_)
    refine wpAny_bind ?_
    rw [← Array.forIn_toList]
    refine hashLoopV xs vs A.in1 s #[] _ (by unfold dat at d; exact d) hw (by show A.units + 1 + deps xs < cLine; exact o84 hu) fun tk b hb => ?_
    show wpAny _ _ (retInt (Builtin.Tuple.tupleHashOf b.toList)) _ _ _
    rw [hb]
    exact wpAny_bind (wpAny_mkInt (wpAny_pure ⟨_, _, rfl, by have := h (tk + 1); unfold hV toW hashW at this; exact this⟩))
  | .pint i, v, A, s, Q, _, r, _, h => by rw [VR.pint_iff] at r; obtain ⟨t, rfl⟩ := r; exact wpAny_pyHash_int (hashW_int w.params i ▸ h _)
  | .pstr y, v, A, s, Q, _, r, _, h => by rw [VR.pstr_iff] at r; obtain ⟨t, rfl⟩ := r; exact wpAny_pyHash_str (h _)
  | .rng _ _ _, _, _, _, _, d, _, _, _ => by unfold dat at d; cases d
  | .view _ _, _, _, _, _, d, _, _, _ => by unfold dat at d; cases d
  | .ref _, _, _, _, _, d, _, _, _ => by unfold dat at d; cases d
  | .cst _, _, _, _, _, d, _, _, _ => by unfold dat at d; cases d
theorem hashLoopV : ∀ (xs : List V) (vs : List Value) (A : Around) (s : Shared) (b : Array Int) (Q : Array Int → Shared → Prop), dats xs = true → VRs s.heap xs vs → A.units + deps xs < cLine →
    (∀ tk b', b'.toList = b.toList ++ hVs w.params xs → Q b' { s with toks := tk }) →
    wpAny (model prog w) A (forIn vs b fun x r => do let h ← pyHash x; pure PUnit.unit; pure (ForInStep.yield (r.push h))) Q E s
  | [], vs, A, s, b, Q, _, r, _, h => by rw [VRs.nil_iff] at r; subst r; exact wpAny_pure (h s.toks b (by unfold hVs toWs; simp [hashesW]))
  | x :: xs, vs, A, s, b, Q, d, r, hu, h => by
    obtain ⟨v, vs, rfl, hx, hr⟩ := r.uncons
    unfold dats at d
    rw [Bool.and_eq_true] at d
    rw [List.forIn_cons]
    refine wpAny_bind (wpAny_bind (pyHash_V x _ A s _ d.1 hx (by exact o87 hu) fun tk => ?_))
    refine wpAny_bind (wpAny_pure (wpAny_pure ?_))
    exact hashLoopV xs _ A _ _ Q d.2 hr (by exact o88 hu) fun tk' b' hb => h tk' b' (by unfold hVs toWs hashesW; rw [hb]; simp [hV, hVs])
end
theorem tupleT {s : Shared} {xs : List V} {v : Value} (r : VR s.heap (.tup xs) v) : s.TypeIs v "tuple" := by
  replace r := VR.tup_of r
  obtain ⟨a, vs, ep, rfl, hg, hw⟩ := r
  exact ⟨_, hg, rfl⟩
theorem byValue_V {h : Heap} {x : V} {v : Value} (d : dat x = true) (r : VR h x v) (n : ∀ xs, x ≠ .tup xs) : carriedByValue v = true := by
  cases x with
  | none => rw [VR.none_iff] at r; subst r; rfl
  | bool => rw [VR.bool_iff] at r; subst r; rfl
  | int => rw [VR.int_iff] at r; obtain ⟨_, rfl⟩ := r; rfl
  | str => rw [VR.str_iff] at r; obtain ⟨_, rfl⟩ := r; rfl
  | pint => rw [VR.pint_iff] at r; obtain ⟨_, rfl⟩ := r; rfl
  | pstr => rw [VR.pstr_iff] at r; obtain ⟨_, rfl⟩ := r; rfl
  | tup xs => exact absurd rfl (n xs)
  | _ => unfold dat at d; cases d
theorem each_V {s : Shared} {A : Around} {f : Value → Sem Bool} {c : Bool} {xs : List V} {vs : List Value} (d : dats xs = true) (r : VRs s.heap xs vs)
    (hf : ∀ x ∈ xs, ∀ v, dat x = true → VR s.heap x v → ∀ Q : Bool → Shared → Prop, Q c s → wpAny (model prog w) A (f v) Q E s) : ∀ v ∈ vs, ∀ Q : Bool → Shared → Prop, Q c s → wpAny (model prog w) A (f v) Q E s := fun v hv Q q => by
  obtain ⟨y, h1, h2, h3, _⟩ := in_mem' r hv d
  exact hf y h1 v h2 h3 Q q
where
  in_mem' {h : Heap} : ∀ {xs : List V} {vs : List Value} {v : Value}, VRs h xs vs → v ∈ vs → dats xs = true → ∃ y, y ∈ xs ∧ dat y = true ∧ VR h y v ∧ dep y ≤ deps xs
  | [], _, _, r, hv, _ => by rw [VRs.nil_iff] at r; subst r; cases hv
  | y :: ys, _, v, r, hv, d => by
    obtain ⟨v', r', rfl, rv, rr⟩ := r.uncons
    unfold dats at d; rw [Bool.and_eq_true] at d
    rcases List.mem_cons.mp hv with rfl | hv
    · exact ⟨y, List.mem_cons_self, d.1, rv, by unfold deps; exact Nat.le_max_left ..⟩
    · obtain ⟨z, h1, h2, h3, h4⟩ := in_mem' rr hv d.2
      exact ⟨z, List.mem_cons_of_mem _ h1, h2, h3, by unfold deps; exact Nat.le_trans h4 (Nat.le_max_right ..)⟩
theorem dep_mem : ∀ {xs : List V} {x : V}, x ∈ xs → dep x ≤ deps xs
  | y :: ys, x, h => by
    rcases List.mem_cons.mp h with rfl | h
    · exact Nat.le_max_left ..
    · exact Nat.le_trans (dep_mem h) (Nat.le_max_right ..)
theorem quiet_V {A : Around} : ∀ (n : Nat) (x : V) (v : Value) (s : Shared) (Q : Bool → Shared → Prop), dat x = true → dep x ≤ n → VR s.heap x v → Q true s → wpAny (model prog w) A (eqIsQuiet n v) Q E s := by
  intro n
  induction n with
  | zero =>
    intro x v s Q d hn r h
    rw [eqIsQuiet_byValue 0 (byValue_V d r fun xs e => by subst e; unfold dep at hn; omega)]
    exact wpAny_pure h
  | succ n ih =>
    intro x v s Q d hn r h
    by_cases z : ∃ xs, x = .tup xs
    · obtain ⟨xs, rfl⟩ := z
      have hT := tupleT r
      unfold dep at hn
      replace r := VR.tup_of r
      obtain ⟨a, vs, ep, rfl, hg, hw⟩ := r
      unfold eqIsQuiet
      refine wpAny_bind (wpAny_specialOf hT F.slot_tuple_eq.lookup ?_)
      show wpAny _ _ (isInstance (.ref a) (.type "tuple") >>= _) _ _ s
      refine wpAny_bind (wpAny_isInstance hT isSubtype_tuple_tuple ?_)
      simp only [Bool.not_true, Bool.false_eq_true, if_false]
      refine wpAny_bind (wpAny_seqItems hg rfl ?_)
      refine wpAny_bind ?_
      show wpAny _ _ (forIn vs.toArray _ _) _ _ s
      rw [← Array.forIn_toList]
      have key := each_V (prog := prog) (w := w) (E := E) (A := A) (s := s) (f := eqIsQuiet n) (c := true) (by unfold dat at d; exact d) hw fun y hy v' dy ry Q q => ih y v' s Q dy (by have := dep_mem hy; exact o89 hn this) ry q
      refine wpAny_forIn_list _ (fun rest r s' => r.1 = none ∧ s' = s ∧ ∀ v ∈ rest, v ∈ vs) _ ?_ ?_ _ _ ⟨rfl, rfl, fun v hv => hv⟩
      · rintro v rest r s' ⟨hr, rfl, hall⟩
        refine wpAny_bind (key v (hall v List.mem_cons_self) _ ?_)
        simp only [Bool.not_true, Bool.false_eq_true, if_false]
        exact wpAny_pure ⟨rfl, rfl, fun u hu' => hall u (List.mem_cons_of_mem _ hu')⟩
      · rintro ⟨r1, r2⟩ s' ⟨hr, rfl, _⟩
        simp only at hr
        subst hr
        exact wpAny_pure h
    · rw [eqIsQuiet_byValue _ (byValue_V d r fun xs e => z ⟨xs, e⟩)]
      exact wpAny_pure h
theorem noClass_V {A : Around} : ∀ (n : Nat) (x : V) (v : Value) (s : Shared) (Q : Bool → Shared → Prop), dat x = true → dep x ≤ n → VR s.heap x v → Q false s → wpAny (model prog w) A (ofAClassStatement n v) Q E s := by
  intro n
  induction n with
  | zero =>
    intro x v s Q d hn r h
    have := byValue_V d r fun xs e => by subst e; unfold dep at hn; omega
    cases v <;> first | (cases this; done) | exact wpAny_of_eq (by unfold ofAClassStatement; rfl) h
  | succ n ih =>
    intro x v s Q d hn r h
    by_cases z : ∃ xs, x = .tup xs
    · obtain ⟨xs, rfl⟩ := z
      have hT := tupleT r
      unfold dep at hn
      replace r := VR.tup_of r
      obtain ⟨a, vs, ep, rfl, hg, hw⟩ := r
      unfold ofAClassStatement
      refine wpAny_bind (wpAny_typeOf hT ?_)
      dsimp only
      refine wpAny_bind ?_
      refine wpAny_pure ?_
      simp only [Bool.not_true, Bool.false_eq_true, if_false]
      refine wpAny_bind (wpAny_seqItems hg rfl ?_)
      dsimp only
      refine wpAny_bind ?_
      rw [← Array.forIn_toList]
      have key := each_V (prog := prog) (w := w) (E := E) (A := A) (s := s) (f := ofAClassStatement n) (c := false) (by unfold dat at d; exact d) hw fun y hy v' dy ry Q q => ih y v' s Q dy (by have := dep_mem hy; exact o89 hn this) ry q
      refine wpAny_forIn_list _ (fun rest r s' => r.1 = none ∧ s' = s ∧ ∀ v ∈ rest, v ∈ vs) _ ?_ ?_ _ _ ⟨rfl, rfl, fun v hv => hv⟩
      · rintro v rest r s' ⟨hr, rfl, hall⟩
        refine wpAny_bind (key v (hall v List.mem_cons_self) _ ?_)
        simp only [Bool.false_eq_true, if_false]
        exact wpAny_pure ⟨rfl, rfl, fun u hu' => hall u (List.mem_cons_of_mem _ hu')⟩
      · rintro ⟨r1, r2⟩ s' ⟨hr, rfl, _⟩
        simp only at hr
        subst hr
        exact wpAny_pure h
    · have := byValue_V d r fun xs e => z ⟨xs, e⟩
      cases v <;> first | (cases this; done) | exact wpAny_of_eq (by unfold ofAClassStatement; rfl) h
end
end Mine
end
section
open PySem PySem.W PySem.Calls PyProof.Rows PySem.SeqAt
set_option linter.unusedSectionVars false
set_option linter.unusedVariables false
namespace Mine
variable [ζ : Dead]
section
variable {g : G} {F : Fm} {m : Loc} {H : AH} {X : Value → List V → Loc → AH → Prop} {Q : V → Loc → AH → Prop}
theorem St.small {s : Shared} (S : St g F m H s) : F.A.units ≤ 2100 ∧ F.A.depth ≤ 610 := by have := S.room; exact o90 this
theorem wc0 {f : Value} (h : WE g F (call f []) m H Q X) : WC g F f [] m H Q X := fun s vs S r => by rw [VRs.nil_iff] at r; subst r; exact h s S
theorem wc1 {f : Value} {x : V} (h : W1 g F VR x (fun v => call f [v]) m H Q X) : WC g F f [x] m H Q X := fun s vs S r => by
  obtain ⟨v, r', rfl, rv, rr⟩ := r.uncons; rw [VRs.nil_iff] at rr; subst rr; exact h s v S rv
theorem wc2 {f : Value} {x y : V} (h : W2 g F VR x y (fun v u => call f [v, u]) m H Q X) : WC g F f [x, y] m H Q X := fun s vs S r => by
  obtain ⟨v, r', rfl, rv, rr⟩ := r.uncons
  obtain ⟨u, r'', rfl, ru, rr⟩ := rr.uncons; rw [VRs.nil_iff] at rr; subst rr; exact h s v u S rv ru
theorem tr_bool {b : Bool} {Q : Bool → Loc → AH → Prop} (h : Q b m H) : W1 g F EqR (.bool b) truthy m H Q X := fun s v S r => by
  rw [VR.bool_iff] at r; subst r; exact wpAny_truthy_bool (OkP.now S rfl rfl rfl rfl h)
theorem tr_none {Q : Bool → Loc → AH → Prop} (h : Q false m H) : W1 g F EqR .none truthy m H Q X := fun s v S r => by
  rw [VR.none_iff] at r; subst r; exact truthy_none (OkP.now S rfl rfl rfl rfl h)
theorem tr_list {l : Addr} {xs : List V} {Q : Bool → Loc → AH → Prop} (hl : LA g H l xs) (hz : xs.length < 2 ^ 60) (h : Q (!xs.isEmpty) m H) : W1 g F EqR (.ref l) truthy m H Q X := fun s v S r => by
  rw [VR.ref_iff] at r; subst r
  obtain ⟨vs, ep, e, rs⟩ := hl.at S
  refine wpAny_truthy_list (items := vs.toArray) ⟨_, e, rfl, ep, rfl⟩ (by rw [List.size_toArray, rs.length]; exact o313 hz) (OkP.now S rfl rfl rfl ?_ h)
  show (!xs.isEmpty) = (!vs.toArray.isEmpty)
  have := rs.length
  cases xs <;> cases vs <;> simp_all
theorem o_add {a b : Int} (h : Q (.int (a + b)) m H) : W2 g F VR (.int a) (.int b) (binaryOp .Add) m H Q X := fun s v u S r r' => by
  rw [VR.int_iff] at r r'; obtain ⟨t, rfl⟩ := r; obtain ⟨t', rfl⟩ := r'; exact PySem.P.add_int (OkP.now S rfl rfl rfl (.int' _ _) h)
theorem o_sub {a b : Int} (h : Q (.int (a - b)) m H) : W2 g F VR (.int a) (.int b) (binaryOp .Sub) m H Q X := fun s v u S r r' => by
  rw [VR.int_iff] at r r'; obtain ⟨t, rfl⟩ := r; obtain ⟨t', rfl⟩ := r'; exact PySem.P.sub_int (OkP.now S rfl rfl rfl (.int' _ _) h)
theorem o_iadd {a b : Int} (h : Q (.int (a + b)) m H) : W2 g F VR (.int a) (.int b) (inplaceOp .Add) m H Q X := fun s v u S r r' => by
  rw [VR.int_iff] at r r'; obtain ⟨t, rfl⟩ := r; obtain ⟨t', rfl⟩ := r'; exact PySem.P.iadd_int (OkP.now S rfl rfl rfl (.int' _ _) h)
theorem o_mod {a b : Int} (hb : b ≠ 0) (h : Q (.int (a.fmod b)) m H) : W2 g F VR (.int a) (.int b) (binaryOp .Mod) m H Q X := fun s v u S r r' => by
  rw [VR.int_iff] at r r'; obtain ⟨t, rfl⟩ := r; obtain ⟨t', rfl⟩ := r'; exact mod_int' hb (OkP.now S rfl rfl rfl (.int' _ _) h)
theorem o_neg {a : Int} (h : Q (.int (-a)) m H) : W1 g F VR (.int a) (unaryOp .USub) m H Q X := fun s v S r => by
  rw [VR.int_iff] at r; obtain ⟨t, rfl⟩ := r; exact PySem.P.neg_int (OkP.now S rfl rfl rfl (.int' _ _) h)
theorem o_eq {x y : V} (dx : dat x = true) (dy : dat y = true) (hd : dep x ≤ 1000) (h : Q (.bool (veq x y)) m H) : W2 g F VR x y (compareOp .Eq) m H Q X := fun s v u S r r' =>
  rc_at trivial dx dy (by have := S.small; have : cLine = 9900 := rfl; exact o314 (by assumption) this hd) r r' g.prog g.w _ _ (OkP.now S rfl rfl rfl (.bool' _) h)
theorem o_ne {x y : V} (dx : dat x = true) (dy : dat y = true) (hd : dep x ≤ 1000) (h : Q (.bool (!veq x y)) m H) : W2 g F VR x y (compareOp .NotEq) m H Q X := fun s v u S r r' =>
  rcne_at trivial dx dy (by have := S.small; have : cLine = 9900 := rfl; exact o314 (by assumption) this hd) r r' g.prog g.w _ _ (OkP.now S rfl rfl rfl (.bool' _) h)
theorem o_eqi {a b : Int} (h : Q (.bool (a == b)) m H) : W2 g F VR (.int a) (.int b) (compareOp .Eq) m H Q X := o_eq (by unfold dat; rfl) (by unfold dat; rfl) (by unfold dep; exact o92) (by unfold veq; exact h)
noncomputable def isNone : V → Bool
  | .none => true
  | _ => false
theorem VR.isNone {h : Heap} {x : V} {v : Value} (r : VR h x v) (hx : ∀ w, x ≠ .cst w) : (v == Value.none) = isNone x := by
  cases x with
  | cst w => exact absurd rfl (hx w)
  | none => rw [VR.none_iff] at r; subst r; rfl
  | bool => rw [VR.bool_iff] at r; subst r; rfl
  | int => rw [VR.int_iff] at r; obtain ⟨_, rfl⟩ := r; rfl
  | str => rw [VR.str_iff] at r; obtain ⟨_, rfl⟩ := r; rfl
  | pint => rw [VR.pint_iff] at r; obtain ⟨_, rfl⟩ := r; rfl
  | pstr => rw [VR.pstr_iff] at r; obtain ⟨_, rfl⟩ := r; rfl
  | ref => rw [VR.ref_iff] at r; subst r; rfl
  | tup => replace r := VR.tup_of r; obtain ⟨_, _, _, rfl, _⟩ := r; rfl
  | rng => unfold VR at r; obtain ⟨_, _, _, _, rfl, _⟩ := r; rfl
  | view => unfold VR at r; obtain ⟨_, rfl, _⟩ := r; rfl
theorem o_isn {x : V} (hx : ∀ w, x ≠ .cst w) (h : Q (.bool (isNone x)) m H) : W2 g F VR x .none (compareOp .Is) m H Q X := fun s v u S r r' => by
  rw [VR.none_iff] at r'; subst r'
  exact is_none_gen (OkP.now S rfl rfl rfl (by rw [r.isNone hx]; exact .bool' _) h)
theorem o_isnn {x : V} (hx : ∀ w, x ≠ .cst w) (h : Q (.bool (!isNone x)) m H) : W2 g F VR x .none (compareOp .IsNot) m H Q X := fun s v u S r r' => by
  rw [VR.none_iff] at r'; subst r'
  exact isnot_none_gen (OkP.now S rfl rfl rfl (by rw [r.isNone hx]; exact .bool' _) h)
theorem o_eqL {a b : Addr} {xs ys : List V} (ha : LA g H a xs) (hb : LA g H b ys) (dx : dats xs = true) (dy : dats ys = true) (hd : deps xs ≤ 1000) (h : Q (.bool (veqs xs ys)) m H) : W2 g F VR (.ref a) (.ref b) (compareOp .Eq) m H Q X := fun s v u S r r' => by
  rw [VR.ref_iff] at r r'; subst r r'
  obtain ⟨vs, ep, e, rs⟩ := ha.at S
  obtain ⟨ws, ep', e', rs'⟩ := hb.at S
  have sm := S.small
  have cl : cLine = 9900 := rfl
  have l1 : s.heap.IsList a vs.toArray := ⟨_, e, rfl, ep, rfl⟩
  have l2 : s.heap.IsList b ws.toArray := ⟨_, e', rfl, ep', rfl⟩
  by_cases q : xs.length = ys.length
  · refine eq_listAt (e := fun j => veq (xs.getD j .none) (ys.getD j .none)) l1 l2 (by simp [rs.length, rs'.length, q]) (by exact o93 sm cl) (fun j h1 h2 => ?_) (OkP.now S rfl rfl rfl ?_ h)
    · simp only [List.size_toArray] at h1 h2
      simp only [List.getElem_toArray]
      exact eq_at (deps xs) F.A.in1 s _ _ _ _ deps_get (dats_get dx) (dats_get dy) (by show F.A.units + 1 + deps xs < cLine; exact o94 sm cl hd) (rs.at h1) (rs'.at h2)
    · rw [List.size_toArray, rs.length, veqs_all xs ys q]; exact .bool' _
  · have : veqs xs ys = false := by
      cases z : veqs xs ys with
      | false => rfl
      | true => exact absurd (veqs_len z) q
    rw [this] at h
    exact eq_list_lengthsAt l1 l2 (by simp [rs.length, rs'.length, q]) (by exact o93 sm cl) (OkP.now S rfl rfl rfl (.bool' _) h)
open Classical in
noncomputable def eqBy (h : Heap) (x : V) (v : Value) : Bool := if q : ∃ y, dat y = true ∧ VR h y v then veq (choose q) x else false
theorem eqBy_is {h : Heap} {x y : V} {v : Value} (dx : dat x = true) (d : dat y = true) (r : VR h y v) : eqBy h x v = veq y x := by
  unfold eqBy
  have q : ∃ y, dat y = true ∧ VR h y v := ⟨y, d, r⟩
  rw [dif_pos q]
  have := Classical.choose_spec q
  exact veq_of_ck this.1 d dx (VR.inj _ y v this.1 d this.2 r)
theorem any_eqBy {h : Heap} {x : V} (dx : dat x = true) : ∀ {xs : List V} {vs : List Value}, dats xs = true → VRs h xs vs → vs.any (eqBy h x) = xs.any (fun y => veq y x)
  | [], _, _, r => by rw [VRs.nil_iff] at r; subst r; rfl
  | y :: ys, _, d, r => by
    obtain ⟨v, r', rfl, rv, rr⟩ := r.uncons
    unfold dats at d; rw [Bool.and_eq_true] at d
    rw [List.any_cons, List.any_cons, eqBy_is dx d.1 rv, any_eqBy dx d.2 rr]
theorem in_mem {h : Heap} : ∀ {xs : List V} {vs : List Value} {v : Value}, VRs h xs vs → v ∈ vs → dats xs = true → ∃ y, y ∈ xs ∧ dat y = true ∧ VR h y v ∧ dep y ≤ deps xs
  | [], _, _, r, hv, _ => by rw [VRs.nil_iff] at r; subst r; cases hv
  | y :: ys, _, v, r, hv, d => by
    obtain ⟨v', r', rfl, rv, rr⟩ := r.uncons
    unfold dats at d; rw [Bool.and_eq_true] at d
    rcases List.mem_cons.mp hv with rfl | hv
    · exact ⟨y, List.mem_cons_self, d.1, rv, by unfold deps; exact Nat.le_max_left ..⟩
    · obtain ⟨z, h1, h2, h3, h4⟩ := in_mem rr hv d.2
      exact ⟨z, List.mem_cons_of_mem _ h1, h2, h3, by unfold deps; exact Nat.le_trans h4 (Nat.le_max_right ..)⟩
theorem o_in {x : V} {l : Addr} {xs : List V} (hl : LA g H l xs) (dx : dat x = true) (ds : dats xs = true) (hd : deps xs ≤ 1000) (h : Q (.bool (xs.any fun y => veq y x)) m H) : W2 g F VR x (.ref l) (compareOp .In) m H Q X := fun s v u S r r' => by
  rw [VR.ref_iff] at r'; subst r'
  obtain ⟨vs, ep, e, rs⟩ := hl.at S
  have sm := S.small
  have cl : cLine = 9900 := rfl
  refine in_listAt (items := vs.toArray) (eqBy s.heap x) ⟨_, e, rfl, ep, rfl⟩ (fun y hy => ?_) (OkP.now S rfl rfl rfl ?_ h)
  · obtain ⟨z, h1, h2, h3, h4⟩ := in_mem rs (by simpa using hy) ds
    rw [eqBy_is dx h2 h3]
    exact eq_at (deps xs) F.A.in1 s _ _ _ _ h4 h2 dx (by show F.A.units + 1 + deps xs < cLine; exact o94 sm cl hd) h3 r
  · rw [List.any_toArray, any_eqBy dx ds rs]; exact .bool' _
end
end Mine
end
section
open PySem PySem.W PySem.Calls PyProof.Rows PySem.SeqAt
set_option linter.unusedSectionVars false
set_option linter.unusedVariables false
set_option maxRecDepth 100000
namespace Mine
variable [ζ : Dead]
section
variable {g : G} {F : Fm} {m : Loc} {H : AH} {s : Shared} {X : Value → List V → Loc → AH → Prop} {Q : V → Loc → AH → Prop}
noncomputable def nums (ns : List Int) : List V := ns.map .int
theorem nums_are {h : Heap} : ∀ {ns : List Int} {vs : List Value}, VRs h (nums ns) vs → IntsAre vs ns
  | [], _, r => by unfold nums at r; rw [List.map_nil, VRs.nil_iff] at r; subst r; exact .nil
  | n :: ns, _, r => by
    unfold nums at r; rw [List.map_cons] at r
    obtain ⟨v, r', rfl, rv, rr⟩ := r.uncons
    rw [VR.int_iff] at rv; obtain ⟨t, rfl⟩ := rv
    exact .cons n t (nums_are rr)
theorem are_nums {h : Heap} : ∀ {ns : List Int} {vs : List Value}, IntsAre vs ns → VRs h (nums ns) vs
  | _, _, .nil => .nil'
  | _, _, .cons n t r => .cons (.int' n t) (are_nums r)
theorem ints_length (ns : List Int) : (nums ns).length = ns.length := by simp [nums]
theorem dats_ints : ∀ ns : List Int, dats (nums ns) = true
  | [] => by unfold nums; rw [List.map_nil]; unfold dats; rfl
  | n :: ns => by unfold nums; rw [List.map_cons]; unfold dats; have := dats_ints ns; unfold nums at this; rw [this]; unfold dat; rfl
theorem deps_ints : ∀ ns : List Int, deps (nums ns) = 0
  | [] => by unfold nums; rw [List.map_nil]; unfold deps; rfl
  | n :: ns => by unfold nums; rw [List.map_cons]; unfold deps; have := deps_ints ns; unfold nums at this; rw [this]; unfold dep; rfl
theorem any_ints (x : Int) (ns : List Int) : ((nums ns).any fun y => veq y (.int x)) = ns.contains x := by
  induction ns with
  | nil => rfl
  | cons n ns ih =>
    unfold nums at ih ⊢
    rw [List.map_cons, List.any_cons, ih, List.contains_cons, veq_int]
    congr 1
    by_cases q : n = x
    · rw [q]
    · rw [beq_eq_false_iff_ne.mpr q, beq_eq_false_iff_ne.mpr (Ne.symm q)]
theorem St.mut {l : Addr} {xs ys : List V} {vs ws : List Value} {ep : Nat} {f : Array Value → Array Value} {t : Nat} (S : St g F m H s) (hl : H l = some (.list xs)) (e : s.heap.get? l = some (lstObj vs ep)) (hf : f vs.toArray = ws.toArray) (hr : VRs s.heap ys ws) :
    St g F m (put H l (.list ys)) { s with heap := s.heap.update l (Obj.mapSeq f), toks := t } ∧ Keep F s.heap H (s.heap.update l (Obj.mapSeq f)) (put H l (.list ys)) := by
  have D := IsL.update (show IsL s.heap l vs.toArray ep from e) f
  rw [hf] at D
  have C : Chg (· = l) s.heap (s.heap.update l (Obj.mapSeq f)) := .sameBut ⟨Heap.size_update .., fun b q => Heap.get?_update_other _ _ (Ne.symm q)⟩ D fun o₀ _ _ e' q => by rw [e] at e'; cases e'; cases q
  refine S.set C hl ⟨ws, _, D, hr.mono fun b o i e' => C.same b o e' fun q => ?_⟩
  subst q; rw [e] at e'; cases e'; have := i.cls; cases this
theorem St.listAt {l : Addr} {xs : List V} (S : St g F m H s) (hl : H l = some (.list xs)) : ∃ vs ep, s.heap.get? l = some (lstObj vs ep) ∧ VRs s.heap xs vs := (S.obj l _ hl).2
theorem LA.own {l : Addr} {xs : List V} (h : H l = some (.list xs)) : LA g H l xs := .inl h
theorem VRs.snoc {h : Heap} {x : V} : ∀ {xs : List V} {vs : List Value}, VRs h (xs ++ [x]) vs → ∃ ws v, vs = ws ++ [v] ∧ VRs h xs ws ∧ VR h x v
  | [], _, r => by obtain ⟨v, r', rfl, rv, rr⟩ := r.uncons; rw [VRs.nil_iff] at rr; subst rr; exact ⟨[], v, rfl, .nil', rv⟩
  | y :: ys, _, r => by
    obtain ⟨u, r', rfl, ru, rr⟩ := r.uncons
    obtain ⟨ws, v, rfl, rw', rv⟩ := VRs.snoc rr
    exact ⟨u :: ws, v, rfl, .cons ru rw', rv⟩
theorem o_item {l : Addr} {xs : List V} {k : Int} {x : V} (hl : LA g H l xs) (h0 : 0 ≤ k) (hz : k < 2 ^ 60) (hx : xs[k.toNat]? = some x) (h : Q x m H) : W2 g F VR (.ref l) (.int k) getItem m H Q X := fun s v u S r r' => by
  rw [VR.ref_iff] at r; subst r; rw [VR.int_iff] at r'; obtain ⟨t, rfl⟩ := r'
  obtain ⟨vs, ep, e, rs⟩ := hl.at S
  obtain ⟨v, ev, rv⟩ := rs.getElem? hx
  exact wpAny_getItem_list (items := vs.toArray) ⟨_, e, rfl, ep, rfl⟩ h0 (by exact o315 hz) (by simpa using ev) (OkP.now S rfl rfl rfl rv h)
theorem o_last {l : Addr} {xs : List V} {x : V} (hl : LA g H l xs) (hx : xs[xs.length - 1]? = some x) (h : Q x m H) : W2 g F VR (.ref l) (.int (-1)) getItem m H Q X := fun s v u S r r' => by
  rw [VR.ref_iff] at r; subst r; rw [VR.int_iff] at r'; obtain ⟨t, rfl⟩ := r'
  obtain ⟨vs, ep, e, rs⟩ := hl.at S
  obtain ⟨v, ev, rv⟩ := rs.getElem? hx
  have hl' := rs.length
  have : xs.length - 1 < xs.length := (List.getElem?_eq_some_iff.mp hx).1
  refine wpAny_getItem_list_neg (items := vs.toArray) (x := v) ⟨_, e, rfl, ep, rfl⟩ (by exact o95) (by simp; exact o96 hl' this) (by exact o316) ?_ (OkP.now S rfl rfl rfl rv h)
  rw [show ((-1 : Int) + (vs.toArray.size : Int)).toNat = xs.length - 1 by simp; exact o97 hl']
  simpa using ev
theorem gi_list {l : Addr} {xs : List V} {i : V} (hl : LA g H l xs) (h : W2 g F VR (.ref l) i getItem m H Q X) : GI g F (.ref l) i m H Q X :=
  ⟨"list", _, list_getitem_lookup, fun s v S r => by rw [VR.ref_iff] at r; subst r; obtain ⟨vs, ep, e, _⟩ := hl.at S; exact ⟨_, e, rfl⟩, h⟩
theorem o_itemT {xs : List V} {k : Int} {x : V} (h0 : 0 ≤ k) (hz : k < 2 ^ 60) (hx : xs[k.toNat]? = some x) (h : Q x m H) : W2 g F VR (.tup xs) (.int k) getItem m H Q X := fun s v u S r r' => by
  replace r := VR.tup_of r; obtain ⟨t, vs, ep, rfl, e, rs⟩ := r; rw [VR.int_iff] at r'; obtain ⟨t', rfl⟩ := r'
  obtain ⟨v, ev, rv⟩ := rs.getElem? hx
  have hlt : k.toNat < vs.length := (List.getElem?_eq_some_iff.mp ev).1
  refine PyProof.Rows.getItem_tuple (items := vs.toArray) (j := k.toNat) (x := v) ⟨_, e, rfl, ep, rfl⟩ (by exact o317 h0) (by exact o315 hz) ?_ (by simpa using ev) (OkP.now S rfl rfl rfl rv h)
  unfold seqIndex?
  have h1 : ¬ k < 0 := by exact o98 h0
  have h2 : 0 ≤ k ∧ k < (vs.toArray.size : Int) := by simp; exact o99 h0 hlt
  simp only [h1, if_false]
  split
  · rfl
  · rename_i q; simp at q; omega
theorem gi_tup {xs : List V} {i : V} (h : W2 g F VR (.tup xs) i getItem m H Q X) : GI g F (.tup xs) i m H Q X :=
  ⟨"tuple", _, PySem.F.slot_tuple_getitem.lookup, fun s v S r => by replace r := VR.tup_of r; obtain ⟨t, vs, ep, rfl, e, rs⟩ := r; exact ⟨_, e, rfl⟩, h⟩
theorem c_append {l : Addr} {xs : List V} {x : V} (hl : H l = some (.list xs)) (hz : xs.length ≤ 16000000) (h : Q .none m (put H l (.list (xs ++ [x])))) : WC g F (.builtin "list.append") [.ref l, x] m H Q X := wc2 fun s v u S r ru => by
  rw [VR.ref_iff] at r; subst r
  obtain ⟨vs, ep, e, rs⟩ := S.listAt hl
  obtain ⟨S', K'⟩ := S.mut (t := s.toks) (f := fun z => z.push u) (ys := xs ++ [x]) (ws := vs ++ [u]) hl e (by simp) (rs.append (.cons ru .nil'))
  exact call_meets PySem.F.slot_list_append ⟨_, e, rfl⟩ PySem.F.entry_list_append (PySem.F.args_list_append_2 _ _) (list_append l vs.toArray ep u (by rw [List.size_toArray, rs.length, sizeLine_eq]; exact o100 hz)) ⟨e, .none, m, _, .none', S', K', h⟩
theorem c_clear {l : Addr} {xs : List V} (hl : H l = some (.list xs)) (hz : xs.length ≤ 16000000) (h : Q .none m (put H l (.list []))) : WC g F (.builtin "list.clear") [.ref l] m H Q X := wc1 fun s v S r => by
  rw [VR.ref_iff] at r; subst r
  obtain ⟨vs, ep, e, rs⟩ := S.listAt hl
  obtain ⟨S', K'⟩ := S.mut (t := s.toks) (f := fun _ => #[]) (ys := []) (ws := []) hl e rfl .nil'
  exact call_meets PySem.F.slot_list_clear ⟨_, e, rfl⟩ PySem.F.entry_list_clear (PySem.F.args_list_clear_1 _) (AutoSeq1.list_clear_list_0 l vs.toArray ep (by rw [List.size_toArray, rs.length, sizeLine_eq]; exact o100 hz)) ⟨e, .none, m, _, .none', S', K', h⟩
theorem c_pop {l : Addr} {xs : List V} {x : V} (hl : H l = some (.list (xs ++ [x]))) (hz : xs.length < 16000000) (h : Q x m (put H l (.list xs))) : WC g F (.builtin "list.pop") [.ref l] m H Q X := wc1 fun s v S r => by
  rw [VR.ref_iff] at r; subst r
  obtain ⟨vs, ep, e, rs⟩ := S.listAt hl
  obtain ⟨ws, v, rfl, rw', rv⟩ := rs.snoc
  have hlen := rw'.length
  obtain ⟨S', K'⟩ := S.mut (t := s.toks) (f := fun z => z.eraseIdxIfInBounds ((ws ++ [v]).toArray.size - 1)) (ys := xs) (ws := ws) hl e (by simp [Array.eraseIdxIfInBounds, List.eraseIdx_append_of_length_le]) rw'
  refine call_meets PySem.F.slot_list_pop ⟨_, e, rfl⟩ PySem.F.entry_list_pop (PySem.F.args_list_pop_1 _) (MeetsSeq.list_pop_last l (ws ++ [v]).toArray ep v (by simp) (by simp [hlen, sizeLine_eq]; exact o101 hz)) ⟨e, x, m, _, ?_, S', K', h⟩
  exact rv.mono (K'.mono S).tup
end
end Mine
end
section
open PySem PySem.W PySem.Calls PyProof.Rows PySem.SeqAt
set_option linter.unusedSectionVars false
set_option linter.unusedVariables false
set_option maxRecDepth 100000
namespace Mine
variable [ζ : Dead]
section
variable {g : G} {F : Fm} {m : Loc} {H : AH} {s : Shared} {X : Value → List V → Loc → AH → Prop} {Q : V → Loc → AH → Prop}
theorem c_len {l : Addr} {xs : List V} (hl : LA g H l xs) (hz : xs.length < 2 ^ 60) (h : Q (.int xs.length) m H) : WC g F (.builtin "len") [.ref l] m H Q X := wc1 fun s v S r => by
  rw [VR.ref_iff] at r; subst r
  obtain ⟨vs, ep, e, rs⟩ := hl.at S
  refine call_len_list (items := vs.toArray) ⟨_, e, rfl, ep, rfl⟩ (by rw [List.size_toArray, rs.length]; exact o313 hz) (OkP.now S rfl rfl rfl ?_ h)
  rw [List.size_toArray, rs.length]; exact .int' _ _
theorem c_lenT {xs : List V} (hz : xs.length < 2 ^ 60) (h : Q (.int xs.length) m H) : WC g F (.builtin "len") [.tup xs] m H Q X := wc1 fun s v S r => by
  replace r := VR.tup_of r; obtain ⟨l, vs, ep, rfl, e, rs⟩ := r
  refine PyProof.Rows.len_tuple (items := vs.toArray) ⟨_, e, rfl, ep, rfl⟩ (by rw [List.size_toArray, rs.length]; exact o313 hz) (OkP.now S rfl rfl rfl ?_ h)
  rw [List.size_toArray, rs.length]; exact .int' _ _
theorem rng_ok {s : Shared} {a b c : Int} {t u v : Tok} {tk : Nat} (S : St g F m H s) (h : Q (.rng a b c) m H) : OkP g F VR Q s.heap H (.ref s.heap.objs.size) { s with heap := s.heap.push { cls := .type "range", data := .fields #[.int a t, .int b u, .int c v] }, toks := tk } := by
  obtain ⟨S', K'⟩ := S.ext (t := tk) (h' := s.heap.push { cls := .type "range", data := .fields #[.int a t, .int b u, .int c v] }) (fun _ _ e => Heap.get?_push_of_some _ e)
  refine ⟨.rng a b c, m, H, ?_, S', K', h⟩
  exact ⟨_, t, u, v, rfl, Heap.get?_push_size _ rfl⟩
theorem c_range1 {n : Int} (h : Q (.rng 0 n 1) m H) : WC g F (.type "range") [.int n] m H Q X := wc1 fun s v S r => by
  rw [VR.int_iff] at r; obtain ⟨t, rfl⟩ := r
  exact call_range_1 (rng_ok S h)
theorem new_list {s : Shared} {ys : List V} {vs : List Value} {ep : Nat} {h' : Heap} {tk : Nat} {a : Addr} (S : St g F m H s) (kp : ∀ b o, s.heap.get? b = some o → h'.get? b = some o) (n : s.heap.get? a = none) (e : h'.get? a = some (lstObj vs ep)) (r : VRs h' ys vs) (h : ∀ a, H a = none → Q (.ref a) m (put H a (.list ys))) :
    OkP g F VR Q s.heap H (.ref a) { s with heap := h', toks := tk } := by
  obtain ⟨S', K'⟩ := S.new (t := tk) (o' := .list ys) kp n ⟨vs, ep, e, r⟩
  exact ⟨.ref a, m, _, .ref' a, S', K', h a (S.untracked n)⟩
theorem c_tupleof {l : Addr} {ys : List V} (hl : LA g H l ys) (hz : ys.length ≤ 2 ^ 24) (h : Q (.tup ys) m H) : WC g F (.type "tuple") [.ref l] m H Q X := wc1 fun s v S r => by
  rw [VR.ref_iff] at r; subst r
  obtain ⟨vs, ep, e, rs⟩ := hl.at S
  refine call_tuple_list (items := vs.toArray) ⟨_, e, rfl, ep, rfl⟩ (fun h' kp => ?_) (by rw [List.size_toArray, rs.length, sizeLine_eq]; exact hz)
  have kp' : ∀ b o, s.heap.get? b = some o → (h'.push (tupObj vs 0)).get? b = some o := fun b o q => Heap.get?_push_of_some _ (kp b o q)
  obtain ⟨S', K'⟩ := S.ext (t := s.toks) kp'
  exact ⟨.tup ys, m, H, .tup' (S.okx kp (Nat.le_refl _)) (Heap.get?_push_size _ rfl) (rs.mono fun _ _ _ q => kp' _ _ q), S', K', h⟩
theorem nums_items : ∀ {vs : List Value} {ns : List Int}, IntsAre vs ns → ∃ ys : List (Int × Tok), vs = ys.map (fun p => .int p.1 p.2) ∧ ns = ys.map (·.1)
  | _, _, .nil => ⟨[], rfl, rfl⟩
  | _, _, .cons n t r => by obtain ⟨ys, e1, e2⟩ := nums_items r; exact ⟨(n, t) :: ys, by simp [e1], by simp [e2]⟩
theorem c_sum {l : Addr} {ns : List Int} (hh : F.A.handled = none) (hl : LA g H l (nums ns)) (h : Q (.int ns.sum) m H) : WC g F (.builtin "sum") [.ref l] m H Q X := wc1 fun s v S r => by
  rw [VR.ref_iff] at r; subst r
  obtain ⟨vs, ep, e, rs⟩ := hl.at S
  obtain ⟨ys, rfl, rfl⟩ := nums_items (nums_are rs)
  refine sum_intListG (xs := ys.toArray) hh ⟨_, e, rfl, ep, by simp [intItems]⟩ fun h' tk t' kp => ?_
  obtain ⟨S', K'⟩ := S.ext (t := tk) kp
  refine ⟨.int _, m, H, ?_, S', K', h⟩
  rw [preSum_eq]
  simp only [List.size_toArray]
  rw [List.take_of_length_le (by simp)]
  exact .int' _ _
theorem c_sorted {l : Addr} {ns : List Int} (hl : LA g H l (nums ns)) (hz : ns.length < 64) (h : ∀ l ms, ms.Perm ns → ms.Pairwise (· ≤ ·) → H l = none → Q (.ref l) m (put H l (.list (nums ms)))) : WC g F (.builtin "sorted") [.ref l] m H Q X := wc1 fun s v S r => by
  rw [VR.ref_iff] at r; subst r
  obtain ⟨vs, ep, e, rs⟩ := hl.at S
  refine sorted_ints (vs := vs) (ns := ns) ⟨_, e, rfl, ep, rfl⟩ (nums_are rs) (by rw [rs.length, ints_length]; exact hz) fun out ms hI hp hs => ?_
  have n1 : s.heap.get? (s.heap.objs.size + 1) = none := Heap.get?_none_of_le (Nat.le_succ _)
  have kp : ∀ b o, s.heap.get? b = some o → (sortedAll s.heap vs out).get? b = some o := fun b o q => sortedAll_old q
  obtain ⟨n', e'⟩ := sortedAll_at s.heap vs out
  exact new_list S kp n1 (vs := out.toList) (ep := n') (by simpa using e') (are_nums hI) fun a ha => h a ms hp hs ha
end
end Mine
end
section
open PySem PySem.W PySem.Calls PyProof.Rows PySem.SeqAt
set_option linter.unusedSectionVars false
set_option linter.unusedVariables false
set_option maxRecDepth 100000
namespace Mine
variable [ζ : Dead]
section
variable {prog : Program} {w : World} {A : Around} {E : Value → Shared → Prop} {s : Shared}
theorem m_str {α : Type} {key : Value} {f : Str → Tok → α} {k : Value → α} {C : α → Prop} (hs : ∀ x t, key = .str x t → C (f x t)) (hg : C (k key)) : C (isExactStrKey.match_1 (fun _ => α) key f k) := by
  cases key <;> first | exact hs _ _ rfl | exact hg
theorem m_ref {α : Type} {key : Value} {f : Addr → α} {k : Value → α} {C : α → Prop} (hs : ∀ a, key = .ref a → C (f a)) (hg : C (k key)) : C (carriedByValue.match_1 (fun _ => α) key f k) := by
  cases key <;> first | exact hs _ rfl | exact hg
theorem ite_two {α β : Type} {c : Prop} [Decidable c] {a b : Sem α} {K : α → Sem β} {v : α} {Q : β → Shared → Prop} (ha : c → ∀ R : α → Shared → Prop, R v s → wpAny (model prog w) A a R E s) (hb : ¬ c → ∀ R : α → Shared → Prop, R v s → wpAny (model prog w) A b R E s)
    (h : wpAny (model prog w) A (K v) Q E s) : wpAny (model prog w) A (if c then a >>= K else b >>= K) Q E s := by
  by_cases q : c
  · rw [if_pos q]; exact wpAny_bind (ha q _ h)
  · rw [if_neg q]; exact wpAny_bind (hb q _ h)
theorem find_core {d : Addr} {o : Obj} {ds : Array DictEntry} {ep : Nat} {key : Value} {hh : Int} {Q : Option Nat → Shared → Prop} (ho : s.heap.get? d = some o) (hd : o.data = .dict ds ep) (p : Nat → Bool)
    (h1 : ∀ j (hj : j < ds.size), p j = true → ds[j].hash = hh) (h2 : ∀ i j, i < ds.size → j < ds.size → p i = true → p j = true → i = j)
    (h3 : ∀ j (hj : j < ds.size) (Q : Bool → Shared → Prop), Q (p j) s → wpAny (model prog w) A (eqBool ds[j].key key) Q E s)
    (h4 : ∀ (stored : List Value), (∀ v ∈ stored, ∃ j, ∃ hj : j < ds.size, v = ds[j].key) → ∀ Q : Bool → Shared → Prop, Q false s → wpAny (model prog w) A (tableMayTell key stored) Q E s)
    (h5 : ∀ a, key = .ref a → ¬ (ds.any fun e => e.key == key && e.hash != hh) = true) (h6 : ∀ x t, key = .str x t → (ds.all fun e => isExactStrKey e.key) = true → ∀ j (hj : j < ds.size), ds[j].key.isStr x = p j)
    (hnone : (∀ j, j < ds.size → p j = false) → Q none s) (hsome : ∀ j, j < ds.size → p j = true → Q (some j) s) : wpAny (model prog w) A (dictFind d key hh) Q E s := by
  have haskey : ∀ j, j < ds.size → p j = true → ((ds[j]?.map (·.hash)) == some hh) = true := fun j hj q => by
    rw [Array.getElem?_eq_getElem hj, Option.map_some, h1 j hj q]; simp
  have plain : wpAny (model prog w) A (dictWalkPlain d key hh ds (placesWithHash ds.size (fun i => ds[i]?.map (·.hash)) hh)) Q E s := by
    refine wpAny_bind ?_
    refine wpAny_forIn_list _
      (fun rest b s' => s' = s ∧ b = (none, ()) ∧ ∃ i, rest = (List.range' i (ds.size - i)).filter (fun i => (ds[i]?.map (·.hash)) == some hh) ∧ i ≤ ds.size ∧ ∀ j, j < ds.size → j < i → p j = false) _ ?_ ?_ _ _
      ⟨rfl, rfl, 0, by rw [placesWithHash, List.range_eq_range', Nat.sub_zero], Nat.zero_le _, fun _ _ h => absurd h (Nat.not_lt_zero _)⟩
    · rintro x rest b s' ⟨rfl, rfl, i, hr, hi, hno⟩
      obtain ⟨hix, hxn, hpx, hskip, hrest⟩ := filter_range'_cons _ _ _ _ _ hr.symm
      have hlt : x < ds.size := by exact o102 hi hxn
      have hnext : p x = false → ∃ i, rest = (List.range' i (ds.size - i)).filter (fun i => (ds[i]?.map (·.hash)) == some hh) ∧ i ≤ ds.size ∧ ∀ j, j < ds.size → j < i → p j = false := fun hne =>
        ⟨x + 1, by rw [hrest]; congr 2; exact o103 hi, hlt, fun j hj hji => by
          rcases Nat.lt_or_ge j i with h | h
          · exact hno j hj h
          · rcases Nat.lt_or_ge j x with h' | h'
            · cases q : p j with
              | false => rfl
              | true => have := hskip j h h'; rw [haskey j hj q] at this; cases this
            · have : j = x := by exact o104 h' hji
              subst this; exact hne⟩
      simp only [Array.getElem?_eq_getElem hlt]
      by_cases hq : (ds[x].hash == hh) = true
      · rw [if_pos hq]
        refine wpAny_bind (wpAny_dictEpoch ho hd (wpAny_bind (h3 x hlt _ (wpAny_bind (wpAny_dictEpoch ho hd ?_)))))
        show wpAny _ _ (if (ep != ep) = true then _ else _) _ E _
        rw [if_neg (by simp)]
        cases hp : p x with
        | true => exact wpAny_bind (wpAny_rule (wpAny_pure (wpAny_pure (hsome x hlt hp))))
        | false => exact wpAny_bind (wpAny_rule (wpAny_pure ⟨rfl, rfl, hnext hp⟩))
      · rw [if_neg hq]
        refine wpAny_pure ⟨rfl, rfl, hnext ?_⟩
        cases hp : p x with
        | false => rfl
        | true => rw [h1 x hlt hp] at hq; simp at hq
    · rintro b s' ⟨rfl, rfl, i, hr, hi, hno⟩
      refine wpAny_pure (hnone fun j hj => ?_)
      rcases Nat.lt_or_ge j i with h | h
      · exact hno j hj h
      · cases q : p j with
        | false => rfl
        | true =>
          have := List.filter_eq_nil_iff.mp hr.symm j (List.mem_range'_1.mpr ⟨h, by exact o105 hj⟩)
          exact absurd (haskey j hj q) this
  have hst : ∀ v ∈ (placesWithHash ds.size (fun i => ds[i]?.map (·.hash)) hh).filterMap (fun i => ds[i]?.map (·.key)), ∃ j, ∃ hj : j < ds.size, v = ds[j].key := by
    intro v hv
    obtain ⟨i, _, hi⟩ := List.mem_filterMap.mp hv
    cases hei : ds[i]? with
    | none => rw [hei] at hi; cases hi
    | some e =>
      rw [hei] at hi
      obtain ⟨hlt, he⟩ := Array.getElem?_eq_some_iff.mp hei
      exact ⟨i, hlt, by rw [he]; simpa using hi.symm⟩
  have full : wpAny (model prog w) A (do
      let tells ← if ((placesWithHash ds.size (fun i => ds[i]?.map (·.hash)) hh).filterMap fun i => ds[i]?.map (·.key)) == [key] then pure false else tableMayTell key ((placesWithHash ds.size (fun i => ds[i]?.map (·.hash)) hh).filterMap fun i => ds[i]?.map (·.key))
      if tells && ((placesWithHash ds.size (fun i => ds[i]?.map (·.hash)) hh).filterMap fun i => ds[i]?.map (·.key)).length ≥ 2 then unsupported "dict.find:order-among-keys-of-one-hash"
      let mut hit : Option Nat := none
      for i in placesWithHash ds.size (fun i => ds[i]?.map (·.hash)) hh do
        if let some e := ds[i]? then
          if e.hash == hh then
            let before ← dictEpoch d (keyPart key)
            let same ← eqBool e.key key
            if (← dictEpoch d (keyPart key)) != before then unsupported "dict.changed-during-lookup"
            if same then
              if hit.isSome then unsupported "dict.find:order-among-keys-of-one-hash"
              rule "dict.find.hit"
              if ((placesWithHash ds.size (fun i => ds[i]?.map (·.hash)) hh).filterMap fun i => ds[i]?.map (·.key)).length < 2 then return some i
              hit := some i
            else
              rule "dict.find.same-hash-other-key"
              if tells && !(0 ≤ hh && hh < 32) then unsupported "dict.find:asked-again-or-not-hangs-on-the-table"
      return hit) Q E s := by
    dsimp only
    refine ite_two (v := false) (fun _ R h => wpAny_pure h) (fun _ R h => h4 _ hst _ h) ?_
    rw [if_neg (by simp)]
    refine wpAny_bind ?_
    refine wpAny_forIn_list _
      (fun rest b s' => s' = s ∧ ∃ i hit, b = (none, hit) ∧ rest = (List.range' i (ds.size - i)).filter (fun i => (ds[i]?.map (·.hash)) == some hh) ∧ i ≤ ds.size ∧
        ((hit = none ∧ ∀ j, j < ds.size → j < i → p j = false) ∨ ∃ j, hit = some j ∧ j < i ∧ j < ds.size ∧ p j = true)) _ ?_ ?_ _ _
      ⟨rfl, 0, none, rfl, by rw [placesWithHash, List.range_eq_range', Nat.sub_zero], Nat.zero_le _, .inl ⟨rfl, fun _ _ h => absurd h (Nat.not_lt_zero _)⟩⟩
    · rintro x rest b s' ⟨rfl, i, hit, rfl, hr, hi, hH⟩
      obtain ⟨hix, hxn, hpx, hskip, hrest⟩ := filter_range'_cons _ _ _ _ _ hr.symm
      have hlt : x < ds.size := by exact o102 hi hxn
      have hrest' : rest = (List.range' (x + 1) (ds.size - (x + 1))).filter (fun i => (ds[i]?.map (·.hash)) == some hh) := by rw [hrest]; congr 2; exact o103 hi
      have hHx : (hit = none ∧ ∀ j, j < ds.size → j < x → p j = false) ∨ ∃ j, hit = some j ∧ j < x ∧ j < ds.size ∧ p j = true := by
        rcases hH with ⟨h0, hno⟩ | ⟨j, e1, hji, hj, pj⟩
        · refine .inl ⟨h0, fun j hj hjx => ?_⟩
          rcases Nat.lt_or_ge j i with h | h
          · exact hno j hj h
          · cases q : p j with
            | false => rfl
            | true => have := hskip j h hjx; rw [haskey j hj q] at this; cases this
        · exact .inr ⟨j, e1, by exact o409 hix hji, hj, pj⟩
      have hstay : p x = false → ((hit = none ∧ ∀ j, j < ds.size → j < x + 1 → p j = false) ∨ ∃ j, hit = some j ∧ j < x + 1 ∧ j < ds.size ∧ p j = true) := by
        intro hne
        rcases hHx with ⟨h0, hno⟩ | ⟨j, e1, hjx, hj, pj⟩
        · refine .inl ⟨h0, fun j hj hjx => ?_⟩
          rcases Nat.lt_or_ge j x with h | h
          · exact hno j hj h
          · have : j = x := by exact o104 h hjx
            subst this; exact hne
        · exact .inr ⟨j, e1, by exact o410 hjx, hj, pj⟩
      simp only [Array.getElem?_eq_getElem hlt]
      by_cases hq : (ds[x].hash == hh) = true
      · rw [if_pos hq]
        refine wpAny_bind (wpAny_dictEpoch ho hd (wpAny_bind (h3 x hlt _ (wpAny_bind (wpAny_dictEpoch ho hd ?_)))))
        show wpAny _ _ (if (ep != ep) = true then _ else _) _ E _
        rw [if_neg (by simp)]
        cases hp : p x with
        | true =>
          rcases hHx with ⟨rfl, _⟩ | ⟨j, _, hjx, hj, pj⟩
          · first | rw [if_pos rfl] | skip
            simp only [Option.isSome_none, Bool.false_eq_true, if_false]
            first | refine wpAny_bind (wpAny_pure ?_) | skip
            refine wpAny_bind (wpAny_rule ?_)
            split
            · exact wpAny_pure (wpAny_pure (hsome x hlt hp))
            · exact wpAny_pure ⟨rfl, x + 1, some x, rfl, hrest', hlt, .inr ⟨x, rfl, Nat.lt_succ_self x, hlt, hp⟩⟩
          · exact absurd (h2 j x hj hlt pj hp) (by exact o108 hjx)
        | false =>
          simp only [Bool.false_eq_true, if_false]
          refine wpAny_bind (wpAny_rule ?_)
          first | rw [if_neg rfl] | skip
          first
            | exact wpAny_pure ⟨rfl, x + 1, hit, rfl, hrest', hlt, hstay hp⟩
            | exact wpAny_bind (wpAny_pure (wpAny_pure ⟨rfl, x + 1, hit, rfl, hrest', hlt, hstay hp⟩))
      · rw [if_neg hq]
        refine wpAny_pure ⟨rfl, x + 1, hit, rfl, hrest', hlt, hstay ?_⟩
        cases hp : p x with
        | false => rfl
        | true => rw [h1 x hlt hp] at hq; simp at hq
    · rintro b s' ⟨rfl, i, hit, rfl, hr, hi, hH⟩
      rcases hH with ⟨rfl, hno⟩ | ⟨j, rfl, _, hj, pj⟩
      · refine wpAny_pure (hnone fun j hj => ?_)
        rcases Nat.lt_or_ge j i with h | h
        · exact hno j hj h
        · cases q : p j with
          | false => rfl
          | true =>
            have := List.filter_eq_nil_iff.mp hr.symm j (List.mem_range'_1.mpr ⟨h, by exact o105 hj⟩)
            exact absurd (haskey j hj q) this
      · exact wpAny_pure (hsome j hj pj)
  have fork : ∀ (P : Sem (Option Nat)), (wpAny (model prog w) A P Q E s) → wpAny (model prog w) A (if ((key :: (placesWithHash ds.size (fun i => ds[i]?.map (·.hash)) hh).filterMap fun i => ds[i]?.map (·.key)).all carriedByValue) = true then dictWalkPlain d key hh ds (placesWithHash ds.size (fun i => ds[i]?.map (·.hash)) hh) else P) Q E s := fun P hP => by
    by_cases q : ((key :: (placesWithHash ds.size (fun i => ds[i]?.map (·.hash)) hh).filterMap fun i => ds[i]?.map (·.key)).all carriedByValue) = true
    · rw [if_pos q]; exact plain
    · rw [if_neg q]; exact hP
  unfold dictFind
  try with_reducible refine wpAny_holding ?_
  refine wpAny_bind (wpAny_dictEntries ho hd ?_)
  dsimp only
  have both : ∀ (f : Addr → Sem (Option Nat)) (k : Value → Sem (Option Nat)), (∀ a, key = .ref a → wpAny (model prog w) A (f a) Q E s) → wpAny (model prog w) A (k key) Q E s → wpAny (model prog w) A (carriedByValue.match_1 (fun _ => Sem (Option Nat)) key f k) Q E s := fun f k => m_ref (C := fun R => wpAny (model prog w) A R Q E s)
  refine m_str (C := fun R => wpAny (model prog w) A R Q E s) (fun x t hk => ?_) ?_
  · by_cases hstrs : (ds.all fun e => isExactStrKey e.key) = true
    · rw [if_pos hstrs]
      have hfun : ∀ j (hj : j < ds.size), ds[j].key.isStr x = p j := h6 x t hk hstrs
      unfold foundByValue
      cases hf : ds.findIdx? (fun e => e.key.isStr x) with
      | none =>
        refine wpAny_pure (hnone fun j hj => ?_)
        rw [← hfun j hj]
        have := Array.findIdx?_eq_none_iff.mp hf ds[j] (Array.getElem_mem hj)
        simpa using this
      | some i =>
        obtain ⟨hlt, hi, _⟩ := Array.findIdx?_eq_some_iff_getElem.mp hf
        have hp : p i = true := by rw [← hfun i hlt]; exact hi
        simp only [Array.getElem?_eq_getElem hlt]
        refine wpAny_bind (wpAny_dictEpoch ho hd (wpAny_bind (h3 i hlt _ (wpAny_bind (wpAny_dictEpoch ho hd ?_)))))
        show wpAny _ _ (if (ep != ep) = true then _ else _) _ E _
        rw [if_neg (by simp), hp]
        exact wpAny_bind (wpAny_rule (wpAny_pure (hsome i hlt hp)))
    · rw [if_neg hstrs]
      exact fork _ (both _ _ (fun a hk => by rw [if_neg (h5 a hk)]; exact full) full)
  · exact fork _ (both _ _ (fun a hk => by rw [if_neg (h5 a hk)]; exact full) full)
end
end Mine
end
section
open PySem PySem.W PySem.Calls PyProof.Rows PySem.SeqAt
set_option linter.unusedSectionVars false
set_option linter.unusedVariables false
set_option maxRecDepth 100000
namespace Mine
variable [ζ : Dead]
noncomputable def dget (es : List (Int × V)) (k : Int) : Option V := (es.find? fun e => decide (cl e.1 = cl k)).map (·.2)
noncomputable def dput (es : List (Int × V)) (k : Int) (x : V) : List (Int × V) := if es.any (fun e => decide (cl e.1 = cl k)) then es.map (fun e => if cl e.1 = cl k then (e.1, x) else e) else es ++ [(k, x)]
noncomputable def ddel (es : List (Int × V)) (k : Int) : List (Int × V) := es.filter fun e => decide (cl e.1 ≠ cl k)
section
variable {P : Params} {h : Heap}
theorem er_len : ∀ {es : List (Int × V)} {ds : List DictEntry}, ER P h es ds → ds.length = es.length
  | [], _, e => by cases e; rfl
  | _ :: _, _, ⟨_, _, _, q, _, _, hr⟩ => by subst q; simp [er_len hr]
theorem er_at : ∀ {es : List (Int × V)} {ds : List DictEntry}, ER P h es ds → ∀ {i : Nat} {e : Int × V}, es[i]? = some e → ∃ key v, ds[i]? = some ⟨hV P (cd e.1), key, v⟩ ∧ VR h (cd e.1) key ∧ VR h e.2 v
  | [], _, _, _, _, q => by simp at q
  | e :: es, _, ⟨key, u, r, q, hk, hv, hr⟩, i, e', z => by
    subst q
    cases i with
    | zero => simp only [List.getElem?_cons_zero, Option.some.injEq] at z ⊢; subst z; exact ⟨key, u, rfl, hk, hv⟩
    | succ j => simp only [List.getElem?_cons_succ] at z ⊢; exact er_at hr z
theorem er_mod {x : V} {v : Value} (hx : VR h x v) : ∀ {es : List (Int × V)} {ds : List DictEntry}, ER P h es ds → ∀ {i : Nat} {k : Int}, (es.map fun e => cl e.1).Nodup → es.findIdx? (fun e => decide (cl e.1 = cl k)) = some i →
    ER P h (es.map fun e => if cl e.1 = cl k then (e.1, x) else e) (ds.modify i fun e => { e with val := v })
  | [], _, _, _, _, _, q => by simp at q
  | e :: es, _, ⟨key, u, r, q, hk, hv, hr⟩, i, k, nd, z => by
    subst q
    rw [List.map_cons, List.nodup_cons] at nd
    rw [List.findIdx?_cons] at z
    rw [List.map_cons]
    by_cases c : cl e.1 = cl k
    · rw [decide_eq_true c, if_pos rfl] at z
      cases z
      rw [if_pos c]
      refine ⟨key, v, r, by rfl, hk, hx, ?_⟩
      have : es.map (fun e => if cl e.1 = cl k then (e.1, x) else e) = es := by
        conv => rhs; rw [← List.map_id es]
        exact List.map_congr_left fun e' he' => if_neg fun q => nd.1 (List.mem_map.mpr ⟨e', he', q.trans c.symm⟩)
      rw [this]; exact hr
    · rw [decide_eq_false c, if_neg Bool.false_ne_true, Option.map_eq_some_iff] at z
      obtain ⟨j, hj, rfl⟩ := z
      rw [if_neg c]
      exact ⟨key, u, _, by rfl, hk, hv, er_mod hx hr nd.2 hj⟩
theorem er_app {k : Int} {key : Value} {x : V} {v : Value} (hk : VR h (cd k) key) (hx : VR h x v) : ∀ {es : List (Int × V)} {ds : List DictEntry}, ER P h es ds → ER P h (es ++ [(k, x)]) (ds ++ [⟨hV P (cd k), key, v⟩])
  | [], _, e => by cases e; exact ⟨key, v, [], rfl, hk, hx, rfl⟩
  | e :: es, _, ⟨key', u, r, q, hk', hv, hr⟩ => by subst q; exact ⟨key', u, _, rfl, hk', hv, er_app hk hx hr⟩
theorem er_del : ∀ {es : List (Int × V)} {ds : List DictEntry}, ER P h es ds → ∀ {i : Nat} {k : Int}, (es.map fun e => cl e.1).Nodup → es.findIdx? (fun e => decide (cl e.1 = cl k)) = some i → ER P h (ddel es k) (ds.eraseIdx i)
  | [], _, _, _, _, _, q => by simp at q
  | e :: es, _, ⟨key, u, r, q, hk, hv, hr⟩, i, k, nd, z => by
    subst q
    rw [List.map_cons, List.nodup_cons] at nd
    rw [List.findIdx?_cons] at z
    unfold ddel
    rw [List.filter_cons]
    by_cases c : cl e.1 = cl k
    · rw [decide_eq_true c, if_pos rfl] at z
      cases z
      rw [if_neg (by simp [c])]
      have : es.filter (fun e => decide (cl e.1 ≠ cl k)) = es := List.filter_eq_self.mpr fun e' he' => decide_eq_true fun q => nd.1 (List.mem_map.mpr ⟨e', he', q.trans c.symm⟩)
      rw [this]; exact hr
    · rw [decide_eq_false c, if_neg Bool.false_ne_true, Option.map_eq_some_iff] at z
      obtain ⟨j, hj, rfl⟩ := z
      rw [if_pos (by simp [c])]
      exact ⟨key, u, _, by rfl, hk, hv, er_del hr nd.2 hj⟩
end
theorem dget_idx_some {es : List (Int × V)} {k : Int} {i : Nat} (q : es.findIdx? (fun e => decide (cl e.1 = cl k)) = some i) : ∃ e, es[i]? = some e ∧ cl e.1 = cl k ∧ dget es k = some e.2 := by
  obtain ⟨hlt, hp, hb⟩ := List.findIdx?_eq_some_iff_getElem.mp q
  refine ⟨es[i], List.getElem?_eq_getElem hlt, of_decide_eq_true hp, ?_⟩
  unfold dget
  have : es.find? (fun e => decide (cl e.1 = cl k)) = some es[i] := by
    rw [List.find?_eq_some_iff_getElem]
    exact ⟨hp, i, hlt, rfl, fun j hj => by simpa using hb j hj⟩
  rw [this]; rfl
theorem dget_idx_none {es : List (Int × V)} {k : Int} (q : es.findIdx? (fun e => decide (cl e.1 = cl k)) = none) : dget es k = none ∧ es.any (fun e => decide (cl e.1 = cl k)) = false := by
  rw [List.findIdx?_eq_none_iff] at q
  refine ⟨?_, ?_⟩
  · unfold dget
    rw [List.find?_eq_none.mpr fun e he => by rw [q e he]; exact Bool.false_ne_true]; rfl
  · rw [List.any_eq_false]; intro e he; rw [q e he]; exact Bool.false_ne_true
section
variable {prog : Program} {w : World} {A : Around} {E : Value → Shared → Prop} {s : Shared}
theorem tells_V {k : Int} {key : Value} {stored : List Value} {Q : Bool → Shared → Prop} (hk : VR s.heap (cd k) key) (hst : ∀ v ∈ stored, ∃ i, VR s.heap (cd i) v) (h : Q false s) : wpAny (model prog w) A (tableMayTell key stored) Q E s := by
  unfold tableMayTell
  split
  · exact wpAny_pure h
  · refine wpAny_bind (quiet_V 8 _ _ s _ (cd_dat k) (cd_dep k) hk ?_)
    simp only [Bool.not_true, Bool.false_eq_true, if_false]
    refine wpAny_bind ?_
    refine wpAny_forIn_list _ (fun rest r s' => s' = s ∧ r = (none, ()) ∧ ∀ v ∈ rest, ∃ i, VR s.heap (cd i) v) _ ?_ ?_ _ _ ⟨rfl, rfl, hst⟩
    · rintro x rest r s' ⟨rfl, rfl, hr⟩
      obtain ⟨i, hi⟩ := hr x List.mem_cons_self
      refine wpAny_bind (quiet_V 8 _ _ _ _ (cd_dat i) (cd_dep i) hi ?_)
      simp only [Bool.not_true, Bool.false_eq_true, if_false]
      exact wpAny_pure ⟨rfl, rfl, fun v hv => hr v (List.mem_cons_of_mem _ hv)⟩
    · rintro r s' ⟨rfl, rfl, _⟩
      exact wpAny_pure h
theorem str_V {h : Heap} {x : V} {y : Str} {t : Tok} (d : dat x = true) (r : VR h x (.str y t)) : ck x = .str y := (VR.inj x (.str y) _ d (by unfold dat; rfl) r (VR.str_iff.mpr ⟨t, rfl⟩)).trans (ck_str y)
theorem dictFind_V {d : Addr} {o : Obj} {ds : Array DictEntry} {ep : Nat} {es : List (Int × V)} {k : Int} {key : Value} {Q : Option Nat → Shared → Prop} (hu : A.units + 9 < cLine) (ho : s.heap.get? d = some o) (hd : o.data = .dict ds ep)
    (er : ER w.params s.heap es ds.toList) (nd : (es.map fun e => cl e.1).Nodup) (hk : VR s.heap (cd k) key) (h : Q (es.findIdx? fun e => decide (cl e.1 = cl k)) s) : wpAny (model prog w) A (dictFind d key (hV w.params (cd k))) Q E s := by
  have sz : ds.size = es.length := by have := er_len er; simpa using this
  have dt : ∀ j (hj : j < ds.size), ∃ e, es[j]? = some e ∧ ds[j].hash = hV w.params (cd e.1) ∧ VR s.heap (cd e.1) ds[j].key := fun j hj => by
    have hj' : j < es.length := by exact o109 sz hj
    obtain ⟨key', v, e1, e2, _⟩ := er_at er (List.getElem?_eq_getElem hj')
    rw [Array.getElem?_toList, Array.getElem?_eq_getElem hj] at e1
    refine ⟨es[j], List.getElem?_eq_getElem hj', ?_, ?_⟩
    · rw [Option.some.inj e1]
    · rw [Option.some.inj e1]; exact e2
  refine find_core ho hd (fun j => match es[j]? with | some e => decide (cl e.1 = cl k) | none => false) (fun j hj q => ?_) (fun i j hi hj p q => ?_) (fun j hj Q q => ?_) (fun stored hst Q q => ?_) (fun a e => ?_) (fun x t e hall j hj => ?_) (fun hn => ?_) (fun j hj q => ?_)
  · obtain ⟨e, e1, e2, e3⟩ := dt j hj
    rw [e1] at q
    rw [e2]
    exact hV_eq _ (cd_dat _) (cd_dat _) (by rw [cd_veq]; exact q)
  · obtain ⟨e, e1, _⟩ := dt i hi
    obtain ⟨e', e1', _⟩ := dt j hj
    rw [e1] at p
    rw [e1'] at q
    have p' := of_decide_eq_true p
    have q' := of_decide_eq_true q
    have hi' : (es.map fun e => cl e.1)[i]? = some (cl k) := by rw [List.getElem?_map, e1]; exact congrArg some p'
    have hj' : (es.map fun e => cl e.1)[j]? = some (cl k) := by rw [List.getElem?_map, e1']; exact congrArg some q'
    exact (List.getElem?_inj (List.getElem?_eq_some_iff.mp hi').1 nd).mp (hi'.trans hj'.symm)
  · obtain ⟨e, e1, e2, e3⟩ := dt j hj
    rw [e1] at q
    dsimp only at q
    rw [← cd_veq] at q
    exact eq_at 8 A s _ _ _ _ (cd_dep _) (cd_dat _) (cd_dat _) (by exact o110 hu) e3 hk prog w E Q q
  · refine tells_V hk (fun v hv => ?_) q
    obtain ⟨j, hj, rfl⟩ := hst v hv
    obtain ⟨e, _, _, e3⟩ := dt j hj
    exact ⟨_, e3⟩
  · subst e
    rw [← Array.any_toList, List.any_eq_true]
    rintro ⟨e, hin, hc⟩
    obtain ⟨j, hj, rfl⟩ := Array.mem_iff_getElem.mp (Array.mem_toList_iff.mp hin)
    obtain ⟨e, _, e2, e3⟩ := dt j hj
    simp only [Bool.and_eq_true, beq_iff_eq, bne_iff_ne, ne_eq] at hc
    rw [hc.1] at e3
    exact hc.2 (by rw [e2, ← hV_ck, VR.inj _ _ _ (cd_dat _) (cd_dat _) e3 hk, hV_ck])
  · subst e
    obtain ⟨e, e1, e2, e3⟩ := dt j hj
    have ek := str_V (cd_dat k) hk
    rw [e1]
    dsimp only
    rw [← cd_veq, Bool.eq_iff_iff, veq_ck _ _ (cd_dat _) (cd_dat _), ek]
    have hex : isExactStrKey ds[j].key = true := by
      rw [← Array.all_toList, List.all_eq_true] at hall
      exact hall _ (Array.mem_toList_iff.mpr (Array.getElem_mem hj))
    generalize ds[j].key = kj at hex e3
    cases kj <;> first | (cases hex; done) | skip
    rename_i y t'
    rw [str_V (cd_dat _) e3, V.str.injEq]
    exact beq_iff_eq
  · have : (es.findIdx? fun e => decide (cl e.1 = cl k)) = none := by
      rw [List.findIdx?_eq_none_iff]
      intro e he
      obtain ⟨j, hj⟩ := List.mem_iff_getElem?.mp he
      have := hn j (by rw [sz]; exact (List.getElem?_eq_some_iff.mp hj).1)
      rw [hj] at this
      exact this
    rw [this] at h; exact h
  · obtain ⟨e, e1, e2, e3⟩ := dt j hj
    rw [e1] at q
    have : (es.findIdx? fun e => decide (cl e.1 = cl k)) = some j := by
      rw [List.findIdx?_eq_some_iff_getElem]
      obtain ⟨hlt, e1'⟩ := List.getElem?_eq_some_iff.mp e1
      refine ⟨hlt, by rw [e1']; exact q, fun i hij => ?_⟩
      intro p
      have p' := of_decide_eq_true p
      have q' := of_decide_eq_true q
      have hi' : (es.map fun e => cl e.1)[i]? = some (cl k) := by rw [List.getElem?_map, List.getElem?_eq_getElem (by exact o111 sz hj hij)]; exact congrArg some p'
      have hj' : (es.map fun e => cl e.1)[j]? = some (cl k) := by rw [List.getElem?_map, e1]; exact congrArg some q'
      have := (List.getElem?_inj (List.getElem?_eq_some_iff.mp hi').1 nd).mp (hi'.trans hj'.symm)
      omega
    rw [this] at h; exact h
theorem dictGet_V {d : Addr} {es : List (Int × V)} {ep : Nat} {k : Int} {key : Value} {Q : Option Value → Shared → Prop} (hu : A.units + 9 < cLine) (D : DictV w.params s.heap d es ep) (hk : VR s.heap (cd k) key)
    (h : ∀ tk, match dget es k with | some x => ∀ v, VR s.heap x v → Q (some v) { s with toks := tk } | none => Q none { s with toks := tk }) : wpAny (model prog w) A (dictGet d key) Q E s := by
  obtain ⟨o, ds, ho, hc, hd, er, nd⟩ := D
  unfold dictGet
  try with_reducible refine wpAny_holding ?_
  refine wpAny_bind (pyHash_V _ _ A s _ (cd_dat k) hk (by have := cd_dep k; exact o112 this hu) fun tk => wpAny_bind (dictFind_V (s := { s with toks := tk }) hu ho hd er nd hk ?_))
  have h := h tk
  cases q : es.findIdx? fun e => decide (cl e.1 = cl k) with
  | none => rw [(dget_idx_none q).1] at h; exact wpAny_pure h
  | some i =>
    obtain ⟨e, e1, _, e2⟩ := dget_idx_some q
    rw [e2] at h
    obtain ⟨key', v', e3, _, rv'⟩ := er_at er e1
    refine wpAny_bind (wpAny_dictEntries (s := { s with toks := tk }) ho hd (wpAny_pure ?_))
    rw [Array.getElem?_toList] at e3
    rw [e3]
    exact h v' rv'
theorem er_keep {d : Addr} {h h' : Heap} {o : Obj} (e : h.get? d = some o) (hc : immC o.cls = false) (hs : Heap.SameBut d h h') (dc : Dct h h') : Mono h h' := ⟨fun b o' i eb => (hs.2 b fun q => by subst q; rw [e] at eb; cases eb; have := i.cls; rw [hc] at this; cases this).trans eb, dc⟩
theorem dct_same {d : Addr} {h h' : Heap} {o : Obj} {ds : Array DictEntry} {ep : Nat} (e : h'.get? d = some o) (hd : o.data = .dict ds ep) (hs : Heap.SameBut d h h') : Dct h h' := fun b o' es ep' eb q => by
  by_cases z : b = d
  · subst z; exact ⟨o, _, _, e, hd⟩
  · exact ⟨o', es, ep', (hs.2 b z).trans eb, q⟩
theorem nd_put {es : List (Int × V)} {k : Int} {x : V} (nd : (es.map fun e => cl e.1).Nodup) : ((dput es k x).map fun e => cl e.1).Nodup := by
  unfold dput
  split
  · rw [List.map_map]
    have : ((fun e : Int × V => cl e.1) ∘ fun e => if cl e.1 = cl k then (e.1, x) else e) = fun e => cl e.1 := funext fun e => by
      show cl (if cl e.1 = cl k then (e.1, x) else e).1 = _
      split <;> rfl
    rw [this]; exact nd
  · rename_i h
    rw [List.map_append, List.nodup_append]
    refine ⟨nd, by simp, fun a ha b hb => ?_⟩
    simp at hb
    subst hb
    intro q
    subst q
    obtain ⟨e, he, q⟩ := List.mem_map.mp ha
    exact h (List.any_eq_true.mpr ⟨e, he, decide_eq_true q⟩)
theorem dictSet_V {d : Addr} {es : List (Int × V)} {ep : Nat} {k : Int} {key : Value} {x : V} {v : Value} {Q : Unit → Shared → Prop} (hu : A.units + 9 < cLine) (D : DictV w.params s.heap d es ep) (hk : VR s.heap (cd k) key) (hx : VR s.heap x v) (hz : es.length ≤ sizeLine)
    (h : ∀ tk h' ep', DictV w.params h' d (dput es k x) ep' → Heap.SameBut d s.heap h' → Q () { s with heap := h', toks := tk }) : wpAny (model prog w) A (dictSet d key v) Q E s := by
  obtain ⟨o, ds, ho, hc, hd, er, nd⟩ := D
  have hes : ds.size ≤ sizeLine := by have := er_len er; simp at this; exact o113 this hz
  have him : immC o.cls = false := by rw [hc.1]; rfl
  unfold dictSet
  try with_reducible refine wpAny_holding ?_
  refine wpAny_bind (pyHash_V _ _ A s _ (cd_dat k) hk (by have := cd_dep k; exact o112 this hu) fun tk => ?_)
  unfold dictSetHashed
  try with_reducible refine wpAny_holding ?_
  refine wpAny_bind (dictFind_V (s := { s with toks := tk }) hu ho hd er nd hk ?_)
  cases q : es.findIdx? fun e => decide (cl e.1 = cl k) with
  | some i =>
    obtain ⟨e, e1, ec, _⟩ := dget_idx_some q
    have eg := Heap.get?_update_self (h := s.heap) (a := d) (·.mapDict (·.modify i fun e => { e with val := v })) ho (Obj.isFreed_of_dict (Obj.data_mapDict hd _))
    have hs := Heap.SameBut.update s.heap d (·.mapDict (·.modify i fun e => { e with val := v }))
    have mn := er_keep ho him hs (dct_same eg (Obj.data_mapDict hd _) hs)
    refine wpAny_bind (wpAny_rule (wpAny_bind (wpAny_updateDict (s := { s with toks := tk }) ho hd (wpAny_point (h tk _ ep ⟨_, _, eg, hc.mapDict _, Obj.data_mapDict hd _, ?_, nd_put nd⟩ hs)))))
    unfold dput
    rw [if_pos (List.any_eq_true.mpr ⟨e, List.mem_of_getElem? e1, decide_eq_true ec⟩)]
    have := ER.mono mn _ _ (er_mod hx er nd q)
    obtain ⟨l⟩ := ds
    simpa using this
  | none =>
    have eg := Heap.get?_update_self (h := s.heap) (a := d) (·.mapDictKeys (·.push ⟨hV w.params (cd k), key, v⟩)) ho (Obj.isFreed_of_dict (Obj.data_mapDictKeys hd _))
    have hs := Heap.SameBut.update s.heap d (·.mapDictKeys (·.push ⟨hV w.params (cd k), key, v⟩))
    have mn := er_keep ho him hs (dct_same eg (Obj.data_mapDictKeys hd _) hs)
    refine wpAny_bind (wpAny_rule (wpAny_updateDictKeys (hz := hes) (s := { s with toks := tk }) ho hd (h tk _ (ep + 1) ⟨_, _, eg, hc.mapDictKeys _, Obj.data_mapDictKeys hd _, ?_, nd_put nd⟩ hs)))
    unfold dput
    rw [if_neg (by rw [(dget_idx_none q).2]; exact Bool.false_ne_true)]
    have := ER.mono mn _ _ (er_app hk hx er)
    obtain ⟨l⟩ := ds
    simpa using this
theorem takeOut_V {d : Addr} {es : List (Int × V)} {ep : Nat} {k : Int} {key : Value} {x : V} {Q : Option DictEntry → Shared → Prop} (hu : A.units + 9 < cLine) (D : DictV w.params s.heap d es ep) (hk : VR s.heap (cd k) key) (hz : es.length ≤ sizeLine) (hx : dget es k = some x)
    (h : ∀ en tk h' ep', DictV w.params h' d (ddel es k) ep' → Heap.SameBut d s.heap h' → Q (some en) { s with heap := h', toks := tk }) : wpAny (model prog w) A (Builtin.Dict.takeOut d key) Q E s := by
  obtain ⟨o, ds, ho, hc, hd, er, nd⟩ := D
  have hes : ds.size ≤ sizeLine := by have := er_len er; simp at this; exact o113 this hz
  have him : immC o.cls = false := by rw [hc.1]; rfl
  unfold Builtin.Dict.takeOut
  try with_reducible refine wpAny_holding ?_
  refine wpAny_bind (pyHash_V _ _ A s _ (cd_dat k) hk (by have := cd_dep k; exact o112 this hu) fun tk => ?_)
  refine wpAny_bind (dictFind_V (s := { s with toks := tk }) hu ho hd er nd hk ?_)
  cases q : es.findIdx? fun e => decide (cl e.1 = cl k) with
  | none => rw [(dget_idx_none q).1] at hx; cases hx
  | some i =>
    obtain ⟨e, e1, ec, _⟩ := dget_idx_some q
    obtain ⟨key', v', e3, _, rv'⟩ := er_at er e1
    rw [Array.getElem?_toList] at e3
    refine wpAny_bind (wpAny_dictEntries (s := { s with toks := tk }) ho hd ?_)
    rw [e3]
    have eg := Heap.get?_update_self (h := s.heap) (a := d) (·.mapDictKeys (·.eraseIdxIfInBounds i)) ho (Obj.isFreed_of_dict (Obj.data_mapDictKeys hd _))
    have hs := Heap.SameBut.update s.heap d (·.mapDictKeys (·.eraseIdxIfInBounds i))
    have mn := er_keep ho him hs (dct_same eg (Obj.data_mapDictKeys hd _) hs)
    refine wpAny_bind (wpAny_updateDictKeys (hz := hes) (s := { s with toks := tk }) ho hd (wpAny_pure (h _ tk _ (ep + 1) ⟨_, _, eg, hc.mapDictKeys _, Obj.data_mapDictKeys hd _, ?_, ?_⟩ hs)))
    · have := ER.mono mn _ _ (er_del er nd q)
      obtain ⟨l⟩ := ds
      simpa using this
    · exact (List.filter_sublist.map _).nodup nd
end
end Mine
end
section
open PySem PySem.W PySem.Calls PyProof.Rows PySem.SeqAt
set_option linter.unusedSectionVars false
set_option linter.unusedVariables false
set_option maxRecDepth 100000
namespace Mine
variable [ζ : Dead]
section
variable {P : Params} {h : Heap}
theorem sr_len : ∀ {us : List Int} {es : List (Int × Value)}, SR P h us es → es.length = us.length
  | [], _, e => by cases e; rfl
  | _ :: _, _, ⟨_, _, q, _, hr⟩ => by subst q; simp [sr_len hr]
theorem sr_at : ∀ {us : List Int} {es : List (Int × Value)}, SR P h us es → ∀ {i : Nat} {u : Int}, us[i]? = some u → ∃ v, es[i]? = some (hV P (cd u), v) ∧ VR h (cd u) v
  | [], _, _, _, _, q => by simp at q
  | u :: us, _, ⟨v, r, q, hv, hr⟩, i, u', z => by
    subst q
    cases i with
    | zero => simp only [List.getElem?_cons_zero, Option.some.injEq] at z ⊢; subst z; exact ⟨v, rfl, hv⟩
    | succ j => simp only [List.getElem?_cons_succ] at z ⊢; exact sr_at hr z
theorem sr_mem {us : List Int} {es : List (Int × Value)} (r : SR P h us es) {e : Int × Value} (he : e ∈ es) : ∃ u ∈ us, e.1 = hV P (cd u) ∧ VR h (cd u) e.2 := by
  obtain ⟨i, hi⟩ := List.mem_iff_getElem?.mp he
  have hl : i < us.length := by rw [← sr_len r]; exact (List.getElem?_eq_some_iff.mp hi).1
  obtain ⟨v, e1, e2⟩ := sr_at r (List.getElem?_eq_getElem hl)
  rw [hi] at e1
  cases Option.some.inj e1
  exact ⟨_, List.getElem_mem hl, rfl, e2⟩
theorem sr_perm {es es' : List (Int × Value)} (p : es.Perm es') : ∀ {us : List Int}, SR P h us es → ∃ us', us.Perm us' ∧ SR P h us' es' := by
  induction p with
  | nil => intro us r; exact ⟨us, .rfl, r⟩
  | cons x _ ih =>
    intro us r
    match us, r with
    | [], e => cases e
    | u :: us, ⟨v, r, q, hv, hr⟩ =>
      cases q
      obtain ⟨us', p', r'⟩ := ih hr
      exact ⟨u :: us', p'.cons _, v, _, rfl, hv, r'⟩
  | swap x y l =>
    intro us r
    match us, r with
    | [], e => cases e
    | [u], ⟨v, r, q, hv, hr⟩ => cases q; cases hr
    | u :: u' :: us, ⟨v, r, q, hv, v', r', q', hv', hr⟩ =>
      cases q
      cases q'
      exact ⟨u' :: u :: us, .swap .., v', _, rfl, hv', v, _, rfl, hv, hr⟩
  | trans _ _ ih1 ih2 =>
    intro us r
    obtain ⟨us1, p1, r1⟩ := ih1 r
    obtain ⟨us2, p2, r2⟩ := ih2 r1
    exact ⟨us2, p1.trans p2, r2⟩
end
section
variable {prog : Program} {w : World} {A : Around} {E : Value → Shared → Prop} {s : Shared}
theorem eqE {u k : Int} {v x : Value} {Q : Bool → Shared → Prop} (hu : A.units + 9 < cLine) (r : VR s.heap (cd u) v) (hk : VR s.heap (cd k) x) (h : Q (decide (cl u = cl k)) s) : wpAny (model prog w) A (eqBool v x) Q E s := by
  rw [← cd_veq] at h
  exact eq_at 8 A s _ _ _ _ (cd_dep _) (cd_dat _) (cd_dat _) (by exact o110 hu) r hk prog w E Q h
theorem same_V {u : Int} {v : Value} {Q : Bool → Shared → Prop} (r : VR s.heap (cd u) v) (h : Q true s) : wpAny (model prog w) A (isSame v v) Q E s := by
  have d := cd_dat u
  have p := cd_pr u
  generalize cd u = x at r d p
  cases x with
  | none => rw [VR.none_iff] at r; subst r; exact wpAny_isSame_plain rfl h
  | bool b => rw [VR.bool_iff] at r; subst r; exact wpAny_isSame_plain (by cases b <;> rfl) (by rw [beq_self_eq_true]; exact h)
  | int => cases p
  | str => cases p
  | pint n =>
    rw [VR.pint_iff] at r; obtain ⟨t, rfl⟩ := r
    show wpAny _ _ (if (n == n && smallInt n) = true then isSame.cachedInt (t + 1) (t + 1) else isSame.created (n == n) (t + 1) (t + 1)) Q E s
    split
    · unfold isSame.cachedInt
      rw [if_neg (by simp)]
      exact wpAny_bind (wpAny_rule (wpAny_pure h))
    · unfold isSame.created
      rw [if_neg (by simp), if_pos (beq_self_eq_true _)]
      exact wpAny_pure h
  | pstr n =>
    rw [VR.pstr_iff] at r; obtain ⟨t, rfl⟩ := r
    show wpAny _ _ (isSame.created (n == n) (t + 1) (t + 1)) Q E s
    unfold isSame.created
    rw [if_neg (by simp), if_pos (beq_self_eq_true _)]
    exact wpAny_pure h
  | tup xs => replace r := VR.tup_of r; obtain ⟨a, vs, ep, rfl, _⟩ := r; exact wpAny_isSame_ref_self h
  | _ => unfold dat at d; cases d
theorem unseen_V {k : Int} {x : Value} {stored : List Value} {Q : Bool → Shared → Prop} (hk : VR s.heap (cd k) x) (hst : ∀ v ∈ stored, ∃ i, VR s.heap (cd i) v) (h : Q false s) : wpAny (model prog w) A (searchCouldBeSeen x stored) Q E s := by
  refine wpAny_bind ?_
  refine wpAny_forIn_list _ (fun rest r s' => s' = s ∧ r = (none, ()) ∧ ∀ v ∈ rest, ∃ i, VR s.heap (cd i) v) _ ?_ ?_ _ _ ⟨rfl, rfl, hst⟩
  · rintro y rest r s' ⟨rfl, rfl, hr⟩
    obtain ⟨i, hi⟩ := hr y List.mem_cons_self
    have next : ∀ v ∈ rest, ∃ i, VR s'.heap (cd i) v := fun v hv => hr v (List.mem_cons_of_mem _ hv)
    dsimp only
    have go : ∀ (c : Bool) (K : ForInStep (Option Bool × Unit) → Shared → Prop), K (.yield (none, ())) s' → wpAny (model prog w) A (if c = true then pure (ForInStep.yield (none, ())) else do
        if !(← eqIsQuiet 8 x) then return ForInStep.done (some true, ())
        if !(← eqIsQuiet 8 y) then return ForInStep.done (some true, ())
        if ← ofAClassStatement 8 x then return ForInStep.done (some true, ())
        if ← ofAClassStatement 8 y then return ForInStep.done (some true, ())
        return ForInStep.yield (none, ())) K E s' := fun c K q => by
      cases c with
      | true => rw [if_pos rfl]; exact wpAny_pure q
      | false =>
        rw [if_neg Bool.false_ne_true]
        refine wpAny_bind (quiet_V 8 _ _ _ _ (cd_dat k) (cd_dep k) hk ?_)
        simp only [Bool.not_true, Bool.false_eq_true, if_false]
        refine wpAny_bind (quiet_V 8 _ _ _ _ (cd_dat i) (cd_dep i) hi ?_)
        simp only [Bool.not_true, Bool.false_eq_true, if_false]
        refine wpAny_bind (noClass_V 8 _ _ _ _ (cd_dat k) (cd_dep k) hk ?_)
        simp only [Bool.false_eq_true, if_false]
        refine wpAny_bind (noClass_V 8 _ _ _ _ (cd_dat i) (cd_dep i) hi ?_)
        simp only [Bool.false_eq_true, if_false]
        exact wpAny_pure q
    exact go _ _ ⟨rfl, rfl, next⟩
  · rintro r s' ⟨rfl, rfl, _⟩
    exact wpAny_pure h
end
end Mine
end
section
open PySem PySem.W PySem.Calls PyProof.Rows PySem.SeqAt
set_option linter.unusedSectionVars false
set_option linter.unusedVariables false
set_option maxRecDepth 100000
namespace Mine
variable [ζ : Dead]
section
variable {prog : Program} {w : World} {A : Around} {E : Value → Shared → Prop} {s : Shared}
theorem hbv_V {A : Around} : ∀ (n : Nat) (x : V) (v : Value) (s : Shared) (Q : Bool → Shared → Prop), dat x = true → VR s.heap x v → (∀ b, Q b s) → wpAny (model prog w) A (hashByValue n v) Q E s := by
  intro n
  induction n with
  | zero =>
    intro x v s Q d r h
    by_cases z : ∃ xs, x = .tup xs
    · obtain ⟨xs, rfl⟩ := z
      replace r := VR.tup_of r
      obtain ⟨a, vs, ep, rfl, hg, hw⟩ := r
      exact wpAny_of_eq (by unfold hashByValue; rfl) (h _)
    · have := byValue_V d r fun xs e => z ⟨xs, e⟩
      cases v <;> first | (cases this; done) | exact wpAny_of_eq (by unfold hashByValue; rfl) (h _)
  | succ n ih =>
    intro x v s Q d r h
    by_cases z : ∃ xs, x = .tup xs
    · obtain ⟨xs, rfl⟩ := z
      have hT := tupleT r
      replace r := VR.tup_of r
      obtain ⟨a, vs, ep, rfl, hg, hw⟩ := r
      refine wpAny_bind (wpAny_specialOf hT F.slot_tuple_hash.lookup ?_)
      show wpAny _ _ (seqItems? (.ref a) >>= _) _ _ s
      refine wpAny_bind (wpAny_seqItems hg rfl ?_)
      refine wpAny_bind ?_
      show wpAny _ _ (forIn vs.toArray _ _) _ _ s
      rw [← Array.forIn_toList]
      have key : ∀ v ∈ vs, ∀ Q : Bool → Shared → Prop, (∀ b, Q b s) → wpAny (model prog w) A (hashByValue n v) Q E s := fun v hv Q q => by
        obtain ⟨y, h1, h2, h3, _⟩ := each_V.in_mem' hw hv (by unfold dat at d; exact d)
        exact ih y v s Q h2 h3 q
      refine wpAny_forIn_list _ (fun rest r s' => s' = s ∧ ((r.1 = none ∧ ∀ v ∈ rest, v ∈ vs) ∨ False)) _ ?_ ?_ _ _ ⟨rfl, .inl ⟨rfl, fun v hv => hv⟩⟩
      · rintro v rest r s' ⟨rfl, ⟨hr, hall⟩ | c⟩
        · refine wpAny_bind (key v (hall v List.mem_cons_self) _ fun b => ?_)
          cases b with
          | true =>
            simp only [Bool.not_true, Bool.false_eq_true, if_false]
            exact wpAny_pure ⟨rfl, .inl ⟨rfl, fun u hu' => hall u (List.mem_cons_of_mem _ hu')⟩⟩
          | false =>
            simp only [Bool.not_false, if_true]
            exact wpAny_pure (wpAny_pure (h _))
        · exact c.elim
      · rintro ⟨r1, r2⟩ s' ⟨rfl, ⟨hr, _⟩ | c⟩
        · simp only at hr
          subst hr
          exact wpAny_pure (h _)
        · exact c.elim
    · have := byValue_V d r fun xs e => z ⟨xs, e⟩
      cases v <;> first | (cases this; done) | exact wpAny_of_eq (by unfold hashByValue; rfl) (h _)
noncomputable def fcl (us : List Int) (k : Int) : Option Nat := us.findIdx? fun u => decide (cl u = cl k)
theorem scanFrom_V {a : Addr} {o : Obj} {es : Array (Int × Value)} {ep : Nat} {t : SetTable} {x : Value} {k : Int} {adding : Bool} (hu : A.units + 9 < cLine)
    (hk : VR s.heap (cd k) x) (ho : s.heap.get? a = some o) (hd : o.data = .set es ep t) (hf : t.fits es.size = true) :
    ∀ (us : List Int) (l : List (Int × Value)) (i : Nat) {Q : ScanMet → Shared → Prop}, SR w.params s.heap us l → Q (match fcl us k with | some j => .found (i + j) | none => .absent) s →
      wpAny (model prog w) A (setScanFrom a x (hV w.params (cd k)) adding l i) Q E s
  | [], _, i, Q, r, h => by cases r; unfold setScanFrom; exact wpAny_pure h
  | u :: us, _, i, Q, ⟨v, l, q, rv, rr⟩, h => by
    subst q
    unfold setScanFrom
    unfold fcl at h
    rw [List.findIdx?_cons] at h
    have next : cl u ≠ cl k → wpAny (model prog w) A (setScanFrom a x (hV w.params (cd k)) adding l (i + 1)) Q E s := fun c => by
      rw [decide_eq_false c, if_neg Bool.false_ne_true] at h
      refine scanFrom_V hu hk ho hd hf us l (i + 1) rr ?_
      unfold fcl
      cases q : us.findIdx? fun u => decide (cl u = cl k) with
      | none => rw [q] at h; exact h
      | some j => rw [q] at h; dsimp only [Option.map_some] at h ⊢; rw [Nat.add_assoc, Nat.add_comm 1 j]; exact h
    by_cases hq : (hV w.params (cd u) == hV w.params (cd k)) = true
    · rw [if_pos hq]
      refine wpAny_bind (wpAny_setEpoch_of ho hd hf ?_)
      refine wpAny_bind (eqE hu rv hk ?_)
      by_cases c : cl u = cl k
      · rw [decide_eq_true c, if_pos rfl] at h
        rw [decide_eq_true c]
        dsimp only at h
        cases adding
        · dsimp only
          refine wpAny_bind (wpAny_setEpoch_of ho hd hf ?_)
          simp only [bne_self_eq_false, Bool.false_eq_true, ↓reduceIte]
          exact wpAny_pure h
        · simp only [Bool.and_self, ↓reduceIte]
          exact wpAny_pure h
      · rw [decide_eq_false c]
        simp only [Bool.and_false, Bool.false_eq_true, ↓reduceIte]
        refine wpAny_bind (wpAny_setEpoch_of ho hd hf ?_)
        simp only [bne_self_eq_false, Bool.false_eq_true, ↓reduceIte]
        exact next c
    · rw [if_neg hq]
      exact next fun c => hq (by rw [hV_eq w.params (cd_dat u) (cd_dat k) (by rw [cd_veq]; exact decide_eq_true c)]; simp)
theorem sr_idx {us : List Int} {l : List (Int × Value)} {P : Params} {h : Heap} {k : Int} {y : Str} (r : SR P h us l) (ek : ck (cd k) = .str y) (hall : ∀ e ∈ l, isExactStrKey e.2 = true) : l.findIdx? (fun e => e.2.isStr y) = fcl us k := by
  induction us generalizing l with
  | nil => cases r; rfl
  | cons u us ih =>
    obtain ⟨v, l, rfl, rv, rr⟩ := r
    unfold fcl
    rw [List.findIdx?_cons, List.findIdx?_cons, ih rr fun e he => hall e (List.mem_cons_of_mem _ he)]
    have hx := hall _ List.mem_cons_self
    have : (v.isStr y) = decide (cl u = cl k) := by
      rw [← cd_veq, Bool.eq_iff_iff, veq_ck _ _ (cd_dat _) (cd_dat _), ek]
      dsimp only at hx
      cases v <;> first | (cases hx; done) | skip
      rename_i z t'
      rw [str_V (cd_dat _) rv, V.str.injEq]
      exact beq_iff_eq
    show (if v.isStr y = true then _ else _) = _
    rw [this]; rfl
theorem scan_V {a : Addr} {o : Obj} {es : Array (Int × Value)} {ep : Nat} {t : SetTable} {x : Value} {k : Int} {adding : Bool} {us : List Int} {Q : ScanMet → Shared → Prop} (hu : A.units + 9 < cLine)
    (hk : VR s.heap (cd k) x) (ho : s.heap.get? a = some o) (hd : o.data = .set es ep t) (hf : t.fits es.size = true) (r : SR w.params s.heap us es.toList)
    (h : Q (match fcl us k with | some j => .found (0 + j) | none => .absent) s) : wpAny (model prog w) A (setScan a x (hV w.params (cd k)) adding es) Q E s := by
  have old : wpAny (model prog w) A (setScanFrom a x (hV w.params (cd k)) adding es.toList 0) Q E s := scanFrom_V hu hk ho hd hf us es.toList 0 r h
  cases x <;> try exact old
  rename_i y tk
  unfold setScan
  dsimp only
  split
  · rename_i hall
    have ek := str_V (cd_dat k) hk
    rw [← Array.all_toList, List.all_eq_true] at hall
    have e1 := sr_idx r ek hall
    unfold setScanStrs
    have hidx : es.findIdx? (fun e => e.2.isStr y) = es.toList.findIdx? (fun e => e.2.isStr y) := by cases es; simp
    rw [hidx, e1]
    cases hr : fcl us k with
    | none => rw [hr] at h; exact wpAny_pure h
    | some j =>
      rw [hr] at h
      obtain ⟨hj, hpj, _⟩ := List.findIdx?_eq_some_iff_getElem.mp hr
      obtain ⟨v, e2, rv⟩ := sr_at r (List.getElem?_eq_getElem hj)
      rw [Array.getElem?_toList] at e2
      simp only [Nat.zero_add] at h
      dsimp only
      rw [e2]
      dsimp only
      refine wpAny_bind (wpAny_setEpoch_of ho hd hf ?_)
      refine wpAny_bind (eqE hu rv hk ?_)
      rw [hpj]
      cases adding
      · simp only [Bool.false_and, Bool.false_eq_true, ↓reduceIte]
        refine wpAny_bind (wpAny_setEpoch_of ho hd hf ?_)
        simp only [bne_self_eq_false, Bool.false_eq_true, ↓reduceIte]
        exact wpAny_pure h
      · simp only [Bool.and_self, ↓reduceIte]
        exact wpAny_pure h
  · exact old
end
section
variable {P : Params} {h : Heap} {T : Int → Bool} {n : Nat} {es : Array (Int × Value)} {t : SetTable} {ps : List Tb.Ent} {us : List Int}
theorem SetS.srEs (X : SetS P h T n es t ps us) : SR P h us es.toList := by rw [X.ti.es]; exact X.sr
theorem SetS.fcl_some (X : SetS P h T n es t ps us) {k : Int} {j : Nat} (e : fcl us k = some j) : T (cl k) = true := by
  obtain ⟨hj, hp, _⟩ := List.findIdx?_eq_some_iff_getElem.mp e
  exact (X.mem _).mpr (List.mem_map.mpr ⟨us[j], List.getElem_mem hj, of_decide_eq_true hp⟩)
theorem SetS.fcl_none (X : SetS P h T n es t ps us) {k : Int} (e : fcl us k = none) : T (cl k) = false := by
  cases q : T (cl k) with
  | false => rfl
  | true =>
    obtain ⟨u, hu, c⟩ := List.mem_map.mp ((X.mem _).mp q)
    have := List.findIdx?_eq_none_iff.mp e u hu
    rw [decide_eq_true c] at this; cases this
theorem nd_le {l r : List Int} (nd : l.Nodup) (hs : ∀ x ∈ l, x ∈ r) : l.length ≤ r.length := nd.length_le_of_subset fun _ h => hs _ h
theorem SetS.small (X : SetS P h T n es t ps us) : n ≤ 7 := by
  have := nd_le (r := [0, 1, 2, 3, 4, 5, 6]) X.nd fun c hc => by
    obtain ⟨u, _, rfl⟩ := List.mem_map.mp hc
    have := cl_in u
    simp only [List.mem_cons, List.not_mem_nil, or_false]
    exact o115 this
  rw [List.length_map, X.len] at this
  exact this
theorem SetS.psLen (X : SetS P h T n es t ps us) : ps.length = n := by
  have := sr_len X.sr
  rw [List.length_map, X.len] at this; exact this
end
end Mine
end
section
open PySem PySem.W PySem.Calls PyProof.Rows PySem.SeqAt
set_option linter.unusedSectionVars false
set_option linter.unusedVariables false
set_option maxRecDepth 100000
namespace Mine
variable [ζ : Dead]
section
variable {P : Params} {h : Heap} {T : Int → Bool} {n : Nat} {es : Array (Int × Value)} {t : SetTable} {ps : List Tb.Ent} {us : List Int}
theorem SetS.at (X : SetS P h T n es t ps us) {i : Nat} {u : Int} (e : us[i]? = some u) : ∃ v, es[i]? = some (hV P (cd u), v) ∧ VR h (cd u) v := by
  obtain ⟨v, e1, e2⟩ := sr_at X.srEs e
  rw [Array.getElem?_toList] at e1
  exact ⟨v, e1, e2⟩
theorem SetS.usAt (X : SetS P h T n es t ps us) {i : Nat} {q : Tb.Ent} (e : ps[i]? = some q) : ∃ u, us[i]? = some u ∧ q.2.1 = hV P (cd u) := by
  have hl : i < us.length := by rw [X.len, ← X.psLen]; exact (List.getElem?_eq_some_iff.mp e).1
  obtain ⟨v, e1, e2⟩ := sr_at X.sr (List.getElem?_eq_getElem hl)
  rw [List.getElem?_map, e] at e1
  refine ⟨us[i], List.getElem?_eq_getElem hl, ?_⟩
  exact congrArg (·.1) (Option.some.inj e1)
noncomputable def Good (t : SetTable) (us : List Int) (hh : Int) (k : Int) (m : Nat) : Prop := ∃ i u, t.slot (Tb.st t.mask hh m).j = .live i ∧ us[i]? = some u ∧ cl u ≠ cl k
theorem SetS.search (X : SetS P h T n es t ps us) (k : Int) : ∃ N, N < 10 * SetTable.turns t.mask ∧ (∀ m, m < N → Good t us (hV P (cd k)) k m) ∧
    ((T (cl k) = false ∧ t.slot (Tb.st t.mask (hV P (cd k)) N).j = .empty ∧ Tb.Free t.mask (ps.map (·.1)) (hV P (cd k)) N) ∨ (T (cl k) = true ∧ ∃ i u, t.slot (Tb.st t.mask (hV P (cd k)) N).j = .live i ∧ us[i]? = some u ∧ cl u = cl k)) := by
  obtain ⟨n0, F0⟩ := Tb.free_is X.ti.two (occ := ps.map (·.1)) (by rw [List.length_map]; exact X.ti.ln) (hV P (cd k))
  have bad0 : ¬ Good t us (hV P (cd k)) k n0 := by
    rintro ⟨i, u, e, _⟩
    rw [X.ti.empty F0.no] at e; cases e
  obtain ⟨N, h1, h2, h3⟩ := @Tb.first (fun m => ¬ Good t us (hV P (cd k)) k m) (fun _ => Classical.propDecidable _) n0 bad0
  have bef : ∀ m, m < N → Good t us (hV P (cd k)) k m := fun m hm => Classical.byContradiction (h3 m hm)
  have occ : ∀ m, m < N → (Tb.st t.mask (hV P (cd k)) m).j ∈ ps.map (·.1) := fun m hm => Classical.byContradiction fun z => by
    obtain ⟨i, u, e, _⟩ := bef m hm
    rw [X.ti.empty z] at e; cases e
  refine ⟨N, by have := F0.lt; exact o31 h1 this, bef, ?_⟩
  by_cases z : (Tb.st t.mask (hV P (cd k)) N).j ∈ ps.map (·.1)
  · obtain ⟨i, q, e1, e2, e3, e4⟩ := X.ti.live z
    obtain ⟨u, e5, e6⟩ := X.usAt e1
    have c : cl u = cl k := Classical.byContradiction fun c => h2 ⟨i, u, e3, e5, c⟩
    exact .inr ⟨(X.mem _).mpr (List.mem_map.mpr ⟨u, List.mem_of_getElem? e5, c⟩), i, u, e3, e5, c⟩
  · refine .inl ⟨?_, X.ti.empty z, ⟨by have := F0.lt; exact o31 h1 this, z, occ⟩⟩
    cases q : T (cl k) with
    | false => rfl
    | true =>
      obtain ⟨u, hu, c⟩ := List.mem_map.mp ((X.mem _).mp q)
      obtain ⟨j, hj⟩ := List.mem_iff_getElem?.mp hu
      have hl : j < ps.length := by rw [X.psLen, ← X.len]; exact (List.getElem?_eq_some_iff.mp hj).1
      obtain ⟨u', e5, e6⟩ := X.usAt (List.getElem?_eq_getElem hl)
      rw [hj] at e5; cases e5
      have eh : (ps[j]).2.1 = hV P (cd k) := e6.trans (hV_eq P (cd_dat u) (cd_dat k) (by rw [cd_veq]; exact decide_eq_true c))
      obtain ⟨m, m1, m2, m3⟩ := X.ti.reach _ (List.getElem_mem hl)
      rw [eh] at m2 m3
      have pin : (ps[j]).1 ∈ ps.map (·.1) := List.mem_map_of_mem (List.getElem_mem hl)
      have sl : t.slot (ps[j]).1 = .live j := Tb.slot_live (by rw [X.ti.pl]; exact X.ti.up) (by rw [← Array.getElem?_toList, X.ti.pl, List.getElem?_map, List.getElem?_eq_getElem hl]; rfl)
      rcases Nat.lt_trichotomy m N with w | w | w
      · obtain ⟨i, v, g1, g2, g3⟩ := bef m w
        rw [m2, sl] at g1
        cases g1
        rw [hj] at g2; cases g2
        exact absurd c g3
      · subst w; rw [m2] at z; exact absurd pin z
      · exact absurd (m3 N w) z
end
section
variable {prog : Program} {w : World} {A : Around} {E : Value → Shared → Prop} {s : Shared}
theorem nxt {N m M f : Nat} (a : m ≤ M) (b : N - m < f + 1) (c : M < N) : N - (M + 1) < f := by exact o116 a b c
theorem searchFrom_V {a : Addr} {o : Obj} {es : Array (Int × Value)} {ep : Nat} {t : SetTable} {ps : List Tb.Ent} {us : List Int} {T : Int → Bool} {n : Nat} {x : Value} {k : Int} {adding : Bool} {N : Nat} {Q : SetFound → Shared → Prop} (hu : A.units + 9 < cLine)
    (hk : VR s.heap (cd k) x) (ho : s.heap.get? a = some o) (hd : o.data = .set es ep t) (X : SetS w.params s.heap T n es t ps us) (hN : N < 10 * SetTable.turns t.mask)
    (bef : ∀ m, m < N → Good t us (hV w.params (cd k)) k m)
    (fin : (t.slot (Tb.st t.mask (hV w.params (cd k)) N).j = .empty ∧ Q (.free (Tb.st t.mask (hV w.params (cd k)) N).j false) s) ∨
      (∃ i u, t.slot (Tb.st t.mask (hV w.params (cd k)) N).j = .live i ∧ us[i]? = some u ∧ cl u = cl k) ∧ ∀ r, (adding = false → r.isSome = true) → Q (.there r) s) :
    ∀ (f m : Nat) (stand : Option SetTable.Probe), stand.getD (t.probeStart (hV w.params (cd k))) = Tb.st t.mask (hV w.params (cd k)) m → m ≤ N → N - m < f → wpAny (model prog w) A (setSearchFrom a x (hV w.params (cd k)) adding f stand) Q E s := by
  have gw : t.gaveWay = false := by
    unfold SetTable.gaveWay
    rcases X.ti.two with e | e <;> rw [e] <;> rfl
  intro f
  induction f with
  | zero => intro m stand _ _ hf; exact absurd hf (Nat.not_lt_zero _)
  | succ f ih =>
    intro m stand hs hm hf
    refine wpAny_bind (wpAny_setState_of ho hd X.ti.fits ?_)
    dsimp only
    rw [gw]
    simp only [Bool.false_eq_true, if_false]
    rw [hs]
    obtain ⟨M, h1, h2, h3⟩ := @Tb.first (fun j => m ≤ j ∧ (j = N ∨ ∃ i u, t.slot (Tb.st t.mask (hV w.params (cd k)) j).j = .live i ∧ us[i]? = some u ∧ hV w.params (cd u) = hV w.params (cd k))) (fun _ => Classical.propDecidable _) N ⟨hm, .inl rfl⟩
    have skip : ∀ j, m ≤ j → j < M → ∃ i, t.slot (Tb.st t.mask (hV w.params (cd k)) j).j = .live i ∧ (((es[i]?.map (·.1)).getD 0) == hV w.params (cd k)) = false := fun j a b => by
      obtain ⟨i, u, g1, g2, _⟩ := bef j (by exact o106 h1 b)
      obtain ⟨v, e1, _⟩ := X.at g2
      refine ⟨i, g1, ?_⟩
      rw [e1]
      refine beq_eq_false_iff_ne.mpr fun q => h3 j b ⟨a, .inr ⟨i, u, g1, g2, q⟩⟩
    have go := Tb.go_at (t := t) (hashAt := fun i => (es[i]?.map (·.1)).getD 0) (h := hV w.params (cd k)) (10 * SetTable.turns t.mask) m M h2.1 (by exact o117 h1 hN) skip
    have cand : ∀ i u, t.slot (Tb.st t.mask (hV w.params (cd k)) M).j = .live i → us[i]? = some u → hV w.params (cd u) = hV w.params (cd k) →
        t.probe (fun i => (es[i]?.map (·.1)).getD 0) (hV w.params (cd k)) (Tb.st t.mask (hV w.params (cd k)) m) = some (.candidate (Tb.st t.mask (hV w.params (cd k)) M).j i (Tb.st t.mask (hV w.params (cd k)) (M + 1))) := fun i u sl eu eh => by
      obtain ⟨v, e1, _⟩ := X.at eu
      exact go.2 i sl (by rw [e1]; exact beq_iff_eq.mpr eh)
    have look : (t.slot (Tb.st t.mask (hV w.params (cd k)) M).j = .empty ∧ Q (.free (Tb.st t.mask (hV w.params (cd k)) M).j false) s) ∨
        ∃ i u, t.slot (Tb.st t.mask (hV w.params (cd k)) M).j = .live i ∧ us[i]? = some u ∧ hV w.params (cd u) = hV w.params (cd k) ∧ (cl u = cl k → ∀ r, (adding = false → r.isSome = true) → Q (.there r) s) ∧ (cl u ≠ cl k → M < N) := by
      rcases h2.2 with e | ⟨i, u, g1, g2, g3⟩
      · subst e
        rcases fin with z | ⟨⟨i, u, g1, g2, g3⟩, z⟩
        · exact .inl z
        · exact .inr ⟨i, u, g1, g2, hV_eq _ (cd_dat _) (cd_dat _) (by rw [cd_veq]; exact decide_eq_true g3), fun _ => z, fun c => absurd g3 c⟩
      · rcases Nat.lt_or_eq_of_le h1 with l | e
        · obtain ⟨i', u', b1, b2, b3⟩ := bef M l
          rw [g1] at b1; cases b1
          rw [g2] at b2; cases b2
          exact .inr ⟨i, u, g1, g2, g3, fun c => absurd c b3, fun _ => l⟩
        · subst e
          rcases fin with z | ⟨⟨i', u', b1, b2, b3⟩, z⟩
          · exact .inl z
          · rw [g1] at b1; cases b1
            rw [g2] at b2; cases b2
            exact .inr ⟨i, u, g1, g2, g3, fun _ => z, fun c => absurd b3 c⟩
    rcases look with ⟨se, qe⟩ | ⟨i, u, sl, eu, eh, q1, q2⟩
    · have e := go.1 se
      have e' : t.probe (fun i => (es[i]?.map (·.1)).getD 0) (hV w.params (cd k)) (Tb.st t.mask (hV w.params (cd k)) m) = some (.empty (Tb.st t.mask (hV w.params (cd k)) M).j none) := e
      show wpAny _ _ (match t.probe (fun i => (es[i]?.map (·.1)).getD 0) (hV w.params (cd k)) (Tb.st t.mask (hV w.params (cd k)) m) with | some met => _ | _ => _) _ _ _
      rw [e']
      exact wpAny_pure qe
    · have e' := cand i u sl eu eh
      obtain ⟨v, ev, rv⟩ := X.at eu
      have same : t.sameMemory t.moves t.mask = some true := by unfold SetTable.sameMemory; rw [if_pos (beq_self_eq_true _)]
      show wpAny _ _ (match t.probe (fun i => (es[i]?.map (·.1)).getD 0) (hV w.params (cd k)) (Tb.st t.mask (hV w.params (cd k)) m) with | some met => _ | _ => _) _ _ _
      rw [e']
      dsimp only
      have rest : ∀ (R : Sem SetFound), wpAny (model prog w) A R Q E s → wpAny (model prog w) A (if (!t.led) = true then do
          if (← searchCouldBeSeen x ((es.filter (·.1 == hV w.params (cd k))).toList.map (·.2))) = true then unsupported "set:the-search-would-show-the-table" else R
          else R) Q E s := fun R hR => by
        by_cases hl : t.led = true
        · rw [hl, if_neg (by simp)]; exact hR
        · rw [Bool.not_eq_true] at hl
          rw [hl, if_pos (by decide)]
          refine wpAny_bind (unseen_V hk (fun v hv => ?_) ?_)
          · obtain ⟨e, he, rfl⟩ := List.mem_map.mp hv
            have := Array.mem_filter.mp (Array.mem_toList_iff.mp he)
            obtain ⟨u', _, _, r'⟩ := sr_mem X.srEs (Array.mem_toList_iff.mpr this.1)
            exact ⟨u', r'⟩
          · rw [if_neg Bool.false_ne_true]
            exact hR
      refine rest _ ?_
      rw [ev]
      dsimp only
      refine wpAny_bind (wpAny_holding (eqE hu rv hk ?_))
      refine wpAny_bind (wpAny_setState_of ho hd X.ti.fits ?_)
      dsimp only
      rw [same]
      dsimp only
      rw [if_pos rfl, sl]
      dsimp only
      rw [ev]
      dsimp only
      by_cases c : cl u = cl k
      · rw [decide_eq_true c]
        cases adding
        · rw [if_neg (by simp)]
          refine wpAny_bind (same_V rv ?_)
          refine wpAny_bind (wpAny_pure ?_)
          simp only [if_true]
          exact wpAny_pure (q1 c _ fun _ => rfl)
        · rw [if_pos (by simp)]
          exact wpAny_pure (q1 c _ fun e => by cases e)
      · rw [decide_eq_false c]
        rw [if_neg (by simp)]
        refine wpAny_bind (same_V rv ?_)
        refine wpAny_bind (wpAny_pure ?_)
        simp only [if_true]
        rw [if_neg (by simp)]
        exact ih (M + 1) _ rfl (q2 c) (nxt h2.1 hf (q2 c))
end
end Mine
end
section
open PySem PySem.W PySem.Calls PyProof.Rows PySem.SeqAt
set_option linter.unusedSectionVars false
set_option linter.unusedVariables false
set_option maxRecDepth 100000
namespace Mine
variable [ζ : Dead]
section
variable {P : Params} {h : Heap} {T : Int → Bool} {n : Nat} {es : Array (Int × Value)} {t : SetTable} {ps : List Tb.Ent} {us : List Int}
theorem SetS.fcl_is (X : SetS P h T n es t ps us) (k : Int) : (fcl us k).isSome = T (cl k) := by
  cases e : fcl us k with
  | none => rw [X.fcl_none e]; rfl
  | some j => rw [X.fcl_some e]; rfl
theorem SetS.turns (X : SetS P h T n es t ps us) : 10 * SetTable.turns t.mask ≤ 460 := by
  rcases X.ti.two with e | e <;> rw [e] <;> decide
theorem SetS.sz (X : SetS P h T n es t ps us) : es.size = n := by rw [X.ti.size.1, X.psLen]
structure Putted (P : Params) (h : Heap) (T : Int → Bool) (n : Nat) (es : Array (Int × Value)) (t : SetTable) (ps : List Tb.Ent) (us : List Int) : Prop where
  ti : Tb.TI t es ps
  sr : SR P h us (ps.map (·.2))
  nd : (us.map cl).Nodup
  len : us.length = n
  mem : ∀ c, T c = true ↔ c ∈ us.map cl
  few : t.mask = 7 → n ≤ 5
  small : n ≤ 12
theorem Putted.plain (X : Putted P h T n es t ps us) (b : Bool) : Putted P h T n es { t with plain := b } ps us := ⟨X.ti.plain b, X.sr, X.nd, X.len, X.mem, X.few, X.small⟩
theorem SetS.put (X : SetS P h T n es t ps us) {k : Int} {x : Value} (hk : VR h (cd k) x) (no : T (cl k) = false) {N : Nat} (F : Tb.Free t.mask (ps.map (·.1)) (hV P (cd k)) N) :
    ∃ ps' us', Putted P h (fun c => T c || decide (c = cl k)) (n + 1) (SetTable.insertAt es (t.put (Tb.st t.mask (hV P (cd k)) N).j).2 (hV P (cd k), x)) (t.put (Tb.st t.mask (hV P (cd k)) N).j).1 ps' us' := by
  have few : t.mask = 7 → n + 1 ≤ 5 := fun e => by have := X.room; rw [e] at this; exact o118 this
  have sm := X.small
  have room : ps.length + 1 ≤ t.mask := by
    rw [X.psLen]
    rcases X.ti.two with e | e
    · have := few e; exact o119 e this
    · exact o120 e sm
  have I := X.ti.put F x room
  have pm := Tb.ins_perm ps (t.put (Tb.st t.mask (hV P (cd k)) N).j).2 ((Tb.st t.mask (hV P (cd k)) N).j, hV P (cd k), x)
  have r0 : SR P h (k :: us) (((Tb.st t.mask (hV P (cd k)) N).j, hV P (cd k), x) :: ps |>.map (·.2)) := ⟨x, _, rfl, hk, X.sr⟩
  obtain ⟨us', p', r'⟩ := sr_perm (pm.symm.map _) r0
  refine ⟨_, us', I, r', ?_, ?_, fun c => ?_, few, by exact o121 sm⟩
  · refine (p'.map cl).nodup_iff.mp ?_
    rw [List.map_cons, List.nodup_cons]
    refine ⟨fun q => ?_, X.nd⟩
    rw [(X.mem _).mpr q] at no; cases no
  · rw [← p'.length_eq, List.length_cons, X.len]
  · rw [← (p'.map cl).mem_iff, List.map_cons, List.mem_cons, Bool.or_eq_true, decide_eq_true_eq, X.mem]
    exact Or.comm
theorem Putted.done (X : Putted P h T n es t ps us) (q : t.tooFull = false) : SetS P h T n es t ps us := by
  refine ⟨X.ti, ?_, X.sr, X.nd, X.len, X.mem⟩
  unfold SetTable.tooFull SetTable.fill at q
  have e := X.ti.size.2
  have := sr_len X.sr
  rw [List.length_map, X.len] at this
  rw [X.ti.dum, e, this] at q
  simp at q
  exact o413 q
theorem Putted.sz (X : Putted P h T n es t ps us) : es.size = n := by
  have := sr_len X.sr
  rw [List.length_map, X.len] at this
  rw [X.ti.size.1, this]
theorem Putted.relay (X : Putted P h T n es t ps us) (q : t.tooFull = true) : SetTable.sizeAbove (SetTable.grown es.size) = 32 ∧ ∃ t' order ps' us', t.relaid (es.map (·.1)) (SetTable.grown es.size) = some (t', order) ∧ order.toList.Perm (List.range es.size) ∧
    SetS P h T n (order.filterMap (es[·]?)) t' ps' us' := by
  have sz := X.sz
  have full : t.mask * 3 ≤ n * 5 := by
    unfold SetTable.tooFull SetTable.fill at q
    have e := X.ti.size
    rw [X.ti.dum, e.2, ← e.1, sz] at q
    simp at q
    exact o414 q
  have n5 : n = 5 := by
    rcases X.ti.two with e | e
    · have := X.few e; rw [e] at full; exact o124 full this
    · have := X.small; rw [e] at full; omega
  have w : SetTable.sizeAbove (SetTable.grown es.size) = 32 := by rw [sz, n5]; decide
  refine ⟨w, ?_⟩
  have pl : ps.length = n := by rw [← X.ti.size.1, sz]
  obtain ⟨t', order, ps', e1, e2, e3, e4, e5, _⟩ := X.ti.relaid (by exact o126 pl n5) _ w
  obtain ⟨us', p', r'⟩ := sr_perm e4.symm X.sr
  exact ⟨t', order, ps', us', e1, e2, e3, by rw [e5]; exact o127 n5, r', (p'.map cl).nodup_iff.mp X.nd, by rw [← p'.length_eq, X.len], fun c => (X.mem c).trans (p'.map cl).mem_iff⟩
end
section
variable {prog : Program} {w : World} {A : Around} {E : Value → Shared → Prop} {s : Shared}
theorem setFind_V {a : Addr} {T : Int → Bool} {n : Nat} {k : Int} {x : Value} {Q : Option Nat → Shared → Prop} (hu : A.units + 9 < cLine) (hk : VR s.heap (cd k) x) (S : SetV w.params s.heap a T n)
    (h : ∀ r : Option Nat, r.isSome = T (cl k) → Q r s) : wpAny (model prog w) A (setFind a x (hV w.params (cd k))) Q E s := by
  obtain ⟨o, es, ep, t, ps, us, ho, _, hd, X⟩ := S
  refine wpAny_bind (wpAny_setState_of ho hd X.ti.fits ?_)
  dsimp only
  have hunt : wpAny (model prog w) A (do match ← setSearch a x (hV w.params (cd k)) with | .there i => return i | .free .. => return none) Q E s := by
    refine wpAny_bind ?_
    obtain ⟨N, h1, h2, h3⟩ := X.search k
    refine searchFrom_V hu hk ho hd X h1 h2 ?_ 100000 0 none rfl (Nat.zero_le _) (by have := X.turns; exact o128 this h1)
    rcases h3 with ⟨a1, a2, a3⟩ | ⟨a1, a2⟩
    · exact .inl ⟨a2, wpAny_pure (h _ a1.symm)⟩
    · exact .inr ⟨a2, fun r hr => wpAny_pure (h _ ((hr rfl).trans a1.symm))⟩
  by_cases q : byScan x es = true
  · rw [if_pos q]
    refine wpAny_bind (wpAny_rule (wpAny_bind (scan_V hu hk ho hd X.ti.fits X.srEs ?_)))
    have := X.fcl_is k
    cases e : fcl us k with
    | none => rw [e] at this; exact wpAny_pure (h _ this)
    | some j => rw [e] at this; exact wpAny_pure (h _ this)
  · rw [if_neg q]
    exact hunt
theorem store_V {a : Addr} {h : Heap} {o : Obj} {es : Array (Int × Value)} {ep : Nat} {t : SetTable} (es' : Array (Int × Value)) (t' : SetTable) (ho : h.get? a = some o) (hc : o.ExactSet) (hd : o.data = .set es ep t) :
    (h.update a (Obj.putSet es' t')).get? a = some { o with data := .set es' (ep + 1) t' } ∧ Mono h (h.update a (Obj.putSet es' t')) ∧ Heap.SameBut a h (h.update a (Obj.putSet es' t')) := by
  have hg : (h.update a (Obj.putSet es' t')).get? a = some { o with data := .set es' (ep + 1) t' } := by
    have := Heap.get?_update_self (Obj.putSet es' t') ho (by rw [putSet_of es' t' hd]; rfl)
    rw [putSet_of es' t' hd] at this; exact this
  have hs := Heap.SameBut.update h a (Obj.putSet es' t')
  refine ⟨hg, ⟨fun b o' i eb => ?_, fun b o' es' ep' eb q => ?_⟩, hs⟩
  · exact (hs.2 b fun q => by subst q; rw [ho] at eb; cases eb; have := i.cls; rw [hc.1] at this; cases this).trans eb
  · exact ⟨o', es', ep', (hs.2 b fun z => by subst z; rw [ho] at eb; cases eb; rw [hd] at q; cases q).trans eb, q⟩
theorem relayAll_is {t t' : SetTable} {es : Array (Int × Value)} {wanted : Nat} {od : Array Nat} (e : t.relaid (es.map (·.1)) wanted = some (t', od)) (p : od.toList.Perm (List.range es.size)) (f : t'.fits (od.filterMap (es[·]?)).size = true) :
    relayAll t es wanted = (od.filterMap (es[·]?), t', false) := by
  unfold relayAll
  rw [e]
  dsimp only
  rw [if_pos]
  rw [f, Bool.and_true]
  exact List.isPerm_iff.mpr p
theorem tail_V {a : Addr} {o : Obj} {es es1 : Array (Int × Value)} {ep : Nat} {t t1 : SetTable} {T' : Int → Bool} {n' : Nat} {ps' : List Tb.Ent} {us' : List Int} {Q : Bool → Shared → Prop}
    (ho : s.heap.get? a = some o) (hc : o.ExactSet) (hd : o.data = .set es ep t) (X : Putted w.params s.heap T' n' es1 t1 ps' us')
    (h : ∀ h', Heap.SameBut a s.heap h' → SetV w.params h' a T' n' → Q true { s with heap := h' }) {g : Bool → Sem Unit} (hg : ∀ (b : Bool) (s₁ : Shared) (Q' : Unit → Shared → Prop), Q' () s₁ → wpAny (model prog w) A (g b) Q' E s₁) :
    wpAny (model prog w) A (do
        storeSet a es1 t1
        if (!false && t1.tooFull) = true then do
            g (relayAll t1 es1 (SetTable.grown es1.size)).2.2
            storeSet a (relayAll t1 es1 (SetTable.grown es1.size)).1 (relayAll t1 es1 (SetTable.grown es1.size)).2.1
            pure (some true)
          else pure (some true)) (fun r s' => r = some true ∧ Q true s') E s ∧
    ∀ (k : Nat), k = es1.size → ∀ {R : Sem Unit}, (t1.tooFull = true → ∀ s₁ : Shared, (∃ o₁ ep₁, s₁.heap.get? a = some o₁ ∧ o₁.data = .set es1 ep₁ t1) → SetTable.sizeAbove (SetTable.grown es1.size) = 32 → ∀ od t2, t1.relaid (es1.map (·.1)) (SetTable.grown es1.size) = some (t2, od) → od.toList.Perm (List.range es1.size) →
        t1.fits es1.size = true → (od.filterMap (es1[·]?)).size ≤ sizeLine → ∀ Q' : Unit → Shared → Prop, Q' () { s₁ with heap := s₁.heap.update a (Obj.putSet (od.filterMap (es1[·]?)) t2) } → wpAny (model prog w) A R Q' E s₁) →
      wpAny (model prog w) A (do
        storeSet a es1 t1
        if (!false && t1.tooFull) = true then do
            R
            pure true
          else pure true) Q E s := by
  have hz : es1.size ≤ sizeLine := by rw [X.sz, sizeLine_eq]; have := X.small; exact o129 this
  obtain ⟨e1, m1, b1⟩ := store_V es1 t1 ho hc hd
  have no : t1.tooFull = false → Q true { s with heap := s.heap.update a (Obj.putSet es1 t1) } := fun q => h _ b1 ⟨_, es1, ep + 1, t1, ps', us', e1, hc, rfl, (X.done q).mono m1⟩
  have yes : t1.tooFull = true → ∃ t2 od, t1.relaid (es1.map (·.1)) (SetTable.grown es1.size) = some (t2, od) ∧ od.toList.Perm (List.range es1.size) ∧ SetTable.sizeAbove (SetTable.grown es1.size) = 32 ∧ t2.fits (od.filterMap (es1[·]?)).size = true ∧
      (od.filterMap (es1[·]?)).size ≤ sizeLine ∧ Q true { s with heap := (s.heap.update a (Obj.putSet es1 t1)).update a (Obj.putSet (od.filterMap (es1[·]?)) t2) } := fun q => by
    obtain ⟨w32, t2, od, ps2, us2, r1, r2, X2⟩ := X.relay q
    obtain ⟨e2, m2, b2⟩ := store_V (od.filterMap (es1[·]?)) t2 e1 hc rfl
    exact ⟨t2, od, r1, r2, w32, X2.ti.fits, by rw [X2.sz, sizeLine_eq]; have := X.small; exact o129 this, h _ (b1.trans b2) ⟨_, _, _, t2, ps2, us2, e2, hc, rfl, (X2.mono m1).mono m2⟩⟩
  refine ⟨?_, fun k _ R hR => ?_⟩
  · refine wpAny_bind (wpAny_storeSet_of ho hd ?_ hz)
    cases q : t1.tooFull with
    | false =>
      rw [if_neg (by simp)]
      exact wpAny_pure ⟨rfl, no q⟩
    | true =>
      rw [if_pos (by simp)]
      obtain ⟨t2, od, r1, r2, w32, f2, z2, fin⟩ := yes q
      rw [relayAll_is r1 r2 f2]
      dsimp only
      exact wpAny_bind (hg _ _ _ (wpAny_bind (wpAny_storeSet_of e1 rfl (wpAny_pure ⟨rfl, fin⟩) z2)))
  · refine wpAny_bind (wpAny_storeSet_of ho hd ?_ hz)
    cases q : t1.tooFull with
    | false =>
      rw [if_neg (by simp)]
      exact wpAny_pure (no q)
    | true =>
      rw [if_pos (by simp)]
      obtain ⟨t2, od, r1, r2, w32, f2, z2, fin⟩ := yes q
      exact wpAny_bind (hR q _ ⟨_, _, e1, rfl⟩ w32 od t2 r1 r2 X.ti.fits z2 _ (wpAny_pure fin))
theorem setAddHashed_V {a : Addr} {T : Int → Bool} {n : Nat} {k : Int} {x : Value} {Q : Bool → Shared → Prop} (hu : A.units + 9 < cLine) (hk : VR s.heap (cd k) x) (S : SetV w.params s.heap a T n)
    (h : ∀ h', Heap.SameBut a s.heap h' → SetV w.params h' a (fun c => T c || decide (c = cl k)) (if T (cl k) then n else n + 1) → ∀ b, Q b { s with heap := h' }) :
    wpAny (model prog w) A (setAddHashed a x (hV w.params (cd k))) Q E s := by
  have S0 := S
  obtain ⟨o, es, ep, t, ps, us, ho, hc, hd, X⟩ := S
  have same : T (cl k) = true → ∀ b, Q b s := fun q b => by
    have := h s.heap (Heap.SameBut.refl a s.heap) (by
      rw [if_pos q]
      have : (fun c => T c || decide (c = cl k)) = T := funext fun c => by
        by_cases z : c = cl k
        · rw [z, q]; rfl
        · rw [decide_eq_false z, Bool.or_false]
      rw [this]; exact S0) b
    exact this
  refine wpAny_holding (wpAny_bind (wpAny_setState_of ho hd X.ti.fits ?_))
  dsimp only
  obtain ⟨N, h1, h2, h3⟩ := X.search k
  by_cases q : byScan x es = true
  · rw [if_pos q]
    refine wpAny_bind (wpAny_bind (wpAny_rule (wpAny_bind (scan_V hu hk ho hd X.ti.fits X.srEs ?_))))
    have fe := X.fcl_is k
    cases e : fcl us k with
    | some j =>
      rw [e] at fe
      exact wpAny_pure (wpAny_pure (same fe.symm false))
    | none =>
      rw [e] at fe
      rcases h3 with ⟨a1, a2, a3⟩ | ⟨a1, _⟩
      · obtain ⟨ps', us', X'⟩ := X.put hk a1 a3
        dsimp only
        have lay : layNew t es (hV w.params (cd k)) x = (SetTable.insertAt es (t.put (Tb.st t.mask (hV w.params (cd k)) N).j).2 (hV w.params (cd k), x), (t.put (Tb.st t.mask (hV w.params (cd k)) N).j).1, false, false) := by
          unfold layNew
          rw [X.ti.freeSlot a3]
          dsimp only
          have f := X'.ti.fits
          unfold SetTable.orStandIn
          rw [if_pos f, f]
          rfl
        rw [lay]
        dsimp only
        refine wpAny_bind (wpAny_pure ?_)
        have end1 : ∀ b, Q b s → Q b s := fun _ z => z
        have add : ∀ h', Heap.SameBut a s.heap h' → SetV w.params h' a (fun c => T c || decide (c = cl k)) (n + 1) → ∀ b, Q b { s with heap := h' } := fun h' b1 b2 b => h h' b1 (by rw [a1, if_neg Bool.false_ne_true]; exact b2) b
        have wrap : ∀ (P : Sem (Option Bool)), wpAny (model prog w) A P (fun r s' => r = some true ∧ Q true s') E s → wpAny (model prog w) A P (fun r s' => wpAny (model prog w) A (match r with | some added => pure added | none => setAddHashedIn a x (hV w.params (cd k)) 99999) Q E s') E s := fun P hP =>
          wpAny_mono hP (fun r s' z => by obtain ⟨rfl, z⟩ := z; exact wpAny_pure z) fun _ _ z => z
        have gw : ∀ (b : Bool) (s₁ : Shared) (Q' : Unit → Shared → Prop), Q' () s₁ → wpAny (model prog w) A (match b with | true => rule "set.scan.the-table-gave-way" | false => pure ()) Q' E s₁ :=
          fun b s₁ Q' hq => by cases b <;> first | exact wpAny_pure hq | exact wpAny_rule hq
        split
        · refine wpAny_bind (hbv_V 8 _ _ _ _ (cd_dat k) hk fun b => ?_)
          cases b
          · simp only [Bool.false_eq_true, if_false]
            exact wrap _ (tail_V ho hc hd (X'.plain false) (fun h' b1 b2 => add h' b1 b2 true) (by intro b s₁ Q' hq; cases b <;> first | exact wpAny_pure hq | exact wpAny_rule hq)).1
          · simp only [if_true]
            exact wrap _ (tail_V ho hc hd X' (fun h' b1 b2 => add h' b1 b2 true) (by intro b s₁ Q' hq; cases b <;> first | exact wpAny_pure hq | exact wpAny_rule hq)).1
        · refine wpAny_bind (wpAny_pure ?_)
          simp only [if_true]
          exact wrap _ (tail_V ho hc hd X' (fun h' b1 b2 => add h' b1 b2 true) (by intro b s₁ Q' hq; cases b <;> first | exact wpAny_pure hq | exact wpAny_rule hq)).1
      · rw [a1] at fe; cases fe
  · rw [if_neg q]
    refine wpAny_bind ?_
    refine searchFrom_V hu hk ho hd X h1 h2 ?_ 100000 0 none rfl (Nat.zero_le _) (by have := X.turns; exact o128 this h1)
    rcases h3 with ⟨a1, a2, a3⟩ | ⟨a1, a2⟩
    · refine .inl ⟨a2, ?_⟩
      obtain ⟨ps', us', X'⟩ := X.put hk a1 a3
      dsimp only
      refine wpAny_bind (wpAny_setState_of ho hd X.ti.fits ?_)
      dsimp only
      have add : ∀ h', Heap.SameBut a s.heap h' → SetV w.params h' a (fun c => T c || decide (c = cl k)) (n + 1) → ∀ b, Q b { s with heap := h' } := fun h' b1 b2 b => h h' b1 (by rw [a1, if_neg Bool.false_ne_true]; exact b2) b
      have relay : ∀ (t1 : SetTable), t1.led = t1.led → t1.tooFull = true → ∀ s₁ : Shared, (∃ o₁ ep₁, s₁.heap.get? a = some o₁ ∧ o₁.data = .set (SetTable.insertAt es (t.put (Tb.st t.mask (hV w.params (cd k)) N).j).2 (hV w.params (cd k), x)) ep₁ t1) →
          SetTable.sizeAbove (SetTable.grown (SetTable.insertAt es (t.put (Tb.st t.mask (hV w.params (cd k)) N).j).2 (hV w.params (cd k), x)).size) = 32 → ∀ od t2, t1.relaid ((SetTable.insertAt es (t.put (Tb.st t.mask (hV w.params (cd k)) N).j).2 (hV w.params (cd k), x)).map (·.1)) (SetTable.grown (SetTable.insertAt es (t.put (Tb.st t.mask (hV w.params (cd k)) N).j).2 (hV w.params (cd k), x)).size) = some (t2, od) →
          od.toList.Perm (List.range (SetTable.insertAt es (t.put (Tb.st t.mask (hV w.params (cd k)) N).j).2 (hV w.params (cd k), x)).size) →
          t1.fits (SetTable.insertAt es (t.put (Tb.st t.mask (hV w.params (cd k)) N).j).2 (hV w.params (cd k), x)).size = true → (od.filterMap ((SetTable.insertAt es (t.put (Tb.st t.mask (hV w.params (cd k)) N).j).2 (hV w.params (cd k), x))[·]?)).size ≤ sizeLine →
          ∀ Q' : Unit → Shared → Prop, Q' () { s₁ with heap := s₁.heap.update a (Obj.putSet (od.filterMap ((SetTable.insertAt es (t.put (Tb.st t.mask (hV w.params (cd k)) N).j).2 (hV w.params (cd k), x))[·]?)) t2) } → wpAny (model prog w) A (setRelay a (SetTable.grown (es.size + 1))) Q' E s₁ := by
        intro t1 _ _ s₁ ⟨o₁, ep₁, g1, g2⟩ w32 od t2 r1 r2 f1 z Q' hq
        have e1 : (SetTable.insertAt es (t.put (Tb.st t.mask (hV w.params (cd k)) N).j).2 (hV w.params (cd k), x)).size = es.size + 1 := by rw [X'.sz, X.sz]
        generalize SetTable.insertAt es (t.put (Tb.st t.mask (hV w.params (cd k)) N).j).2 (hV w.params (cd k), x) = es1 at *
        rw [← e1]
        refine wpAny_bind (wpAny_setState_of g1 g2 f1 ?_)
        dsimp only
        rw [if_neg (by rw [w32, sizeLine_eq]; exact o130)]
        rw [r1]
        have sz2 : (od.filterMap (es1[·]?)).size = es1.size := by
          have := r2.filterMap fun i => es1[i]?
          rw [← Array.toList_filterMap] at this
          have := this.length_eq
          rw [Array.length_toList] at this
          rw [this, filterMap_getElem?_range]
          simp
        show wpAny _ _ (do let x ← (do
            if (od.filterMap (es1[·]?)).size != es1.size then unsupported "internal:set-table-lost-an-element"
            pure (od.filterMap (es1[·]?), t2) : Sem (Array (Int × Value) × SetTable)); match x with | (es, t) => storeSet a es t) _ _ _
        rw [sz2]
        simp only [bne_self_eq_false, Bool.false_eq_true, if_false]
        exact wpAny_bind (wpAny_pure (wpAny_storeSet_of g1 g2 hq z))
      have gw : ∀ (b : Bool) (s₁ : Shared) (Q' : Unit → Shared → Prop), Q' () s₁ → wpAny (model prog w) A (match b with | true => rule "set.scan.the-table-gave-way" | false => pure ()) Q' E s₁ :=
        fun b s₁ Q' hq => by cases b <;> first | exact wpAny_pure hq | exact wpAny_rule hq
      split
      · refine wpAny_bind (hbv_V 8 _ _ _ _ (cd_dat k) hk fun b => ?_)
        cases b
        · simp only [Bool.false_eq_true, if_false]
          exact (tail_V ho hc hd (X'.plain false) (fun h' b1 b2 => add h' b1 b2 true) gw).2 _ rfl (relay _ rfl)
        · simp only [if_true]
          exact (tail_V ho hc hd X' (fun h' b1 b2 => add h' b1 b2 true) gw).2 _ rfl (relay _ rfl)
      · refine wpAny_bind (wpAny_pure ?_)
        simp only [if_true]
        exact (tail_V ho hc hd X' (fun h' b1 b2 => add h' b1 b2 true) gw).2 _ rfl (relay _ rfl)
    · exact .inr ⟨a2, fun r hr => wpAny_pure (same a1 false)⟩
end
end Mine
end
section
open PySem PySem.W PySem.Calls PyProof.Rows PySem.SeqAt
set_option linter.unusedSectionVars false
set_option linter.unusedVariables false
set_option maxRecDepth 100000
namespace Mine
variable [ζ : Dead]
noncomputable def RawD (h : Heap) (d : Addr) (ds : Array DictEntry) (ep : Nat) : Prop := ∃ o, h.get? d = some o ∧ o.cls = .type "dict" ∧ o.data = .dict ds ep
theorem RawD.typeIs {s : Shared} {d : Addr} {ds : Array DictEntry} {ep : Nat} (x : RawD s.heap d ds ep) : s.TypeIs (.ref d) "dict" := (x).elim fun o qq1 => qq1.elim fun e qq2 => qq2.elim fun c _ => ⟨o, e, c⟩
noncomputable def RawI (T : String) (pre : List Value) (h : Heap) (it d : Addr) (i n ep : Nat) (post : List Value) : Prop :=
  h.get? it = some { cls := .type T, dict := none, data := .fields (pre ++ (Value.ref d :: Value.int i 0 :: Value.int n 0 :: Value.int ep 0 :: post)).toArray, slots := #[] }
section
variable {prog : Program} {w : World} {A : Around} {E : Value → Shared → Prop} {s : Shared}
theorem stop_raised {it : Addr} {h₁ : Heap} {Q : Option Value → Shared → Prop} {s₁ : Shared} (hh : A.handled = none) (e₁ : s₁.heap = h₁)
    (hQ : ∀ h', (∀ b o, h₁.get? b = some o → h'.get? b = some o) → Q none { s₁ with heap := h' }) :
    wpAny (model prog w) A.in1 (do raiseNew (← newExc (.type "StopIteration") [])) (fun (fin : Fin) s' => ∃ v, fin = .done (.ret v) ∧ wpAny (model prog w) A (pure (some v)) Q E s')
      (fun x s' => wpAny (model prog w) A (do if ← isInstance x (.type "StopIteration") then return (none : Option Value) else throw x) Q E s') s₁ := by
  subst e₁
  refine wpAny_bind ?_
  simp only [newExc, newTuple]
  refine wpAny_bind (wpAny_newObj_type ?_ (by size_fits))
  refine wpAny_bind (m := firstArgMember _ _) (wpAny_of_eq (a := Value.none) (by first | rfl | (simp only [firstArgMember]; rfl)) ?_)
  refine wpAny_newObj_type ?_ (by size_fits)
  simp only [raiseNew]
  refine wpAny_bind (wpAny_handled ?_)
  rw [show A.in1.handled = none from hh]
  refine wpAny_bind (wpAny_pure (wpAny_throw ?_))
  refine wpAny_bind (wpAny_isInstance (T := "StopIteration") (b := true) ⟨_, Heap.get?_push_size _ rfl, rfl⟩ isSubtype_stop ?_)
  exact wpAny_pure (hQ _ fun b o e => Heap.get?_push_of_some _ (Heap.get?_push_of_some _ e))
theorem next_key {it d : Addr} {i ep : Nat} {ds : Array DictEntry} {Q : Option Value → Shared → Prop} (hit : RawI "dict_keyiterator" [] s.heap it d i ds.size ep []) (hm : RawD s.heap d ds ep) (hi : i < ds.size)
    (hQ : ∀ h', RawI "dict_keyiterator" [] h' it d (i + 1) ds.size ep [] → Heap.SameBut it s.heap h' → Q (some ds[i].key) { s with heap := h' }) : wpAny (model prog w) A (pyNext (.ref it)) Q E s := by
  obtain ⟨od, hod, _, hdd⟩ := id hm
  have e0 : s.heap.get? it = some { cls := .type "dict_keyiterator", dict := none, data := .fields #[.ref d, .int i 0, .int ds.size 0, .int ep 0], slots := #[] } := hit
  have hT : s.TypeIs (.ref it) "dict_keyiterator" := ⟨_, e0, rfl⟩
  refine wpAny_bind (wpAny_attempt (wpAny_callSpecial?_slot (name := Str.ofString "__next__") hT F.slot_dict_keyiterator_next (wpAny_call_entry F.slot_dict_keyiterator_next hT F.entry_dict_keyiterator_next ?_ (F.args_dict_keyiterator_next_1 _))))
  refine wpAny_bind (wpAny_pure ?_)
  refine wpAny_bind (wpAny_bind (wpAny_bind (wpAny_typeNameOfWhole_keyiter hT (wpAny_pure ?_))))
  refine wpAny_bind (wpAny_fieldsOf e0 rfl ?_)
  simp only [show Builtin.Dict_items.ownsTuple "dict_keyiterator" = false by decide, Bool.false_eq_true, if_false, if_true]
  show wpAny _ _ (if (Value.ref d == Value.none) = true then _ else _) _ _ s
  rw [if_neg (show ¬ ((Value.ref d == Value.none) = true) from Bool.false_ne_true)]
  refine wpAny_bind (wpAny_pure (wpAny_bind (wpAny_dictEntries hod hdd ?_)))
  rw [if_neg (by simp)]
  refine wpAny_bind (wpAny_pure (wpAny_bind (wpAny_dictEpoch hod hdd ?_)))
  rw [if_neg (by simp)]
  refine wpAny_pure ?_
  simp only [show ¬ ((i : Int) < 0) from by exact o131, if_false, Int.toNat_natCast, Array.getElem?_eq_getElem hi]
  refine wpAny_bind (wpAny_bind (wpAny_typeNameOfWhole_keyiter hT (wpAny_pure ?_)))
  refine wpAny_bind (wpAny_isOneOf_keyiter hT ?_)
  show wpAny _ _ (setField (.ref it) 1 (rawInt ((i : Int) + 1)) >>= _) _ _ s
  refine wpAny_bind (wpAny_setField_rec e0 (by simp) fun h₁ e₁ b₁ => ?_)
  replace b₁ : Heap.SameBut it s.heap h₁ := b₁
  have r₁ : RawI "dict_keyiterator" [] h₁ it d (i + 1) ds.size ep [] := by
    unfold RawI
    rw [show h₁.get? it = _ from e₁, show ((i + 1 : Nat) : Int) = (i : Int) + 1 by exact o132]
    simp [rawInt]
  refine wpAny_bind (wpAny_holding ?_)
  refine wpAny_bind (wpAny_isOneOf_keyiter (s := { s with heap := h₁ }) ⟨_, e₁, rfl⟩ ?_)
  show wpAny _ _ (pure ds[i].key) _ _ _
  exact wpAny_pure (wpAny_pure ⟨_, rfl, wpAny_pure (hQ _ r₁ b₁)⟩)
theorem end_key {it d : Addr} {ep : Nat} {ds : Array DictEntry} {Q : Option Value → Shared → Prop} (hh : A.handled = none) (hit : RawI "dict_keyiterator" [] s.heap it d ds.size ds.size ep []) (hm : RawD s.heap d ds ep)
    (hQ : ∀ h', (∀ b o, s.heap.get? b = some o → b ≠ it → h'.get? b = some o) → Q none { s with heap := h' }) : wpAny (model prog w) A (pyNext (.ref it)) Q E s := by
  obtain ⟨i, hi⟩ : ∃ i, i = ds.size := ⟨_, rfl⟩
  have hit : RawI "dict_keyiterator" [] s.heap it d i ds.size ep [] := by rw [hi]; exact hit
  obtain ⟨od, hod, _, hdd⟩ := id hm
  have e0 : s.heap.get? it = some { cls := .type "dict_keyiterator", dict := none, data := .fields #[.ref d, .int i 0, .int ds.size 0, .int ep 0], slots := #[] } := hit
  have hT : s.TypeIs (.ref it) "dict_keyiterator" := ⟨_, e0, rfl⟩
  refine wpAny_bind (wpAny_attempt (wpAny_callSpecial?_slot (name := Str.ofString "__next__") hT F.slot_dict_keyiterator_next (wpAny_call_entry F.slot_dict_keyiterator_next hT F.entry_dict_keyiterator_next ?_ (F.args_dict_keyiterator_next_1 _))))
  refine wpAny_bind (wpAny_pure ?_)
  refine wpAny_bind (wpAny_bind (wpAny_bind (wpAny_typeNameOfWhole_keyiter hT (wpAny_pure ?_))))
  refine wpAny_bind (wpAny_fieldsOf e0 rfl ?_)
  simp only [show Builtin.Dict_items.ownsTuple "dict_keyiterator" = false by decide, Bool.false_eq_true, if_false, if_true]
  show wpAny _ _ (if (Value.ref d == Value.none) = true then _ else _) _ _ s
  rw [if_neg (show ¬ ((Value.ref d == Value.none) = true) from Bool.false_ne_true)]
  refine wpAny_bind (wpAny_pure (wpAny_bind (wpAny_dictEntries hod hdd ?_)))
  rw [if_neg (by simp)]
  refine wpAny_bind (wpAny_pure (wpAny_bind (wpAny_dictEpoch hod hdd ?_)))
  rw [if_neg (by simp)]
  refine wpAny_pure ?_
  simp only [show ¬ ((i : Int) < 0) from by exact o131, if_false, Int.toNat_natCast, Array.getElem?_eq_none (show ds.size ≤ i by exact o133 hi)]
  refine wpAny_bind (wpAny_bind (wpAny_typeNameOfWhole_keyiter hT (wpAny_pure ?_)))
  show wpAny _ _ (setField (.ref it) 0 .none >>= _) _ _ s
  refine wpAny_bind (wpAny_setField_rec e0 (by simp) fun h₁ e₁ b₁ => ?_)
  replace b₁ : Heap.SameBut it s.heap h₁ := b₁
  exact stop_raised (it := it) hh rfl fun h' k => hQ h' fun b o e n => k b o ((b₁.2 b n).trans e)
theorem next_val {it d : Addr} {i ep : Nat} {ds : Array DictEntry} {Q : Option Value → Shared → Prop} (hit : RawI "dict_valueiterator" [] s.heap it d i ds.size ep []) (hm : RawD s.heap d ds ep) (hi : i < ds.size)
    (hQ : ∀ h', RawI "dict_valueiterator" [] h' it d (i + 1) ds.size ep [] → Heap.SameBut it s.heap h' → Q (some ds[i].val) { s with heap := h' }) : wpAny (model prog w) A (pyNext (.ref it)) Q E s := by
  obtain ⟨od, hod, _, hdd⟩ := id hm
  have e0 : s.heap.get? it = some { cls := .type "dict_valueiterator", dict := none, data := .fields #[.ref d, .int i 0, .int ds.size 0, .int ep 0], slots := #[] } := hit
  have hT : s.TypeIs (.ref it) "dict_valueiterator" := ⟨_, e0, rfl⟩
  refine wpAny_bind (wpAny_attempt (wpAny_callSpecial?_slot (name := Str.ofString "__next__") hT F.slot_dict_valueiterator_next (wpAny_call_entry F.slot_dict_valueiterator_next hT F.entry_dict_valueiterator_next ?_ (F.args_dict_valueiterator_next_1 _))))
  refine wpAny_bind (wpAny_pure ?_)
  refine wpAny_bind (wpAny_bind (wpAny_bind (wpAny_typeNameOfWhole_valiter hT (wpAny_pure ?_))))
  refine wpAny_bind (wpAny_fieldsOf e0 rfl ?_)
  simp only [show Builtin.Dict_items.ownsTuple "dict_valueiterator" = false by decide, Bool.false_eq_true, if_false, if_true]
  show wpAny _ _ (if (Value.ref d == Value.none) = true then _ else _) _ _ s
  rw [if_neg (show ¬ ((Value.ref d == Value.none) = true) from Bool.false_ne_true)]
  refine wpAny_bind (wpAny_pure (wpAny_bind (wpAny_dictEntries hod hdd ?_)))
  rw [if_neg (by simp)]
  refine wpAny_bind (wpAny_pure (wpAny_bind (wpAny_dictEpoch hod hdd ?_)))
  rw [if_neg (by simp)]
  refine wpAny_pure ?_
  simp only [show ¬ ((i : Int) < 0) from by exact o131, if_false, Int.toNat_natCast, Array.getElem?_eq_getElem hi]
  refine wpAny_bind (wpAny_bind (wpAny_typeNameOfWhole_valiter hT (wpAny_pure ?_)))
  refine wpAny_bind (wpAny_isOneOf_valiter hT ?_)
  show wpAny _ _ (setField (.ref it) 1 (rawInt ((i : Int) + 1)) >>= _) _ _ s
  refine wpAny_bind (wpAny_setField_rec e0 (by simp) fun h₁ e₁ b₁ => ?_)
  replace b₁ : Heap.SameBut it s.heap h₁ := b₁
  have r₁ : RawI "dict_valueiterator" [] h₁ it d (i + 1) ds.size ep [] := by
    unfold RawI
    rw [show h₁.get? it = _ from e₁, show ((i + 1 : Nat) : Int) = (i : Int) + 1 by exact o132]
    simp [rawInt]
  refine wpAny_bind (wpAny_holding ?_)
  refine wpAny_bind (wpAny_isOneOf_valiter (s := { s with heap := h₁ }) ⟨_, e₁, rfl⟩ ?_)
  refine wpAny_bind (wpAny_isOneOf_valiter (s := { s with heap := h₁ }) ⟨_, e₁, rfl⟩ ?_)
  show wpAny _ _ (pure ds[i].val) _ _ _
  exact wpAny_pure (wpAny_pure ⟨_, rfl, wpAny_pure (hQ _ r₁ b₁)⟩)
theorem end_val {it d : Addr} {ep : Nat} {ds : Array DictEntry} {Q : Option Value → Shared → Prop} (hh : A.handled = none) (hit : RawI "dict_valueiterator" [] s.heap it d ds.size ds.size ep []) (hm : RawD s.heap d ds ep)
    (hQ : ∀ h', (∀ b o, s.heap.get? b = some o → b ≠ it → h'.get? b = some o) → Q none { s with heap := h' }) : wpAny (model prog w) A (pyNext (.ref it)) Q E s := by
  obtain ⟨i, hi⟩ : ∃ i, i = ds.size := ⟨_, rfl⟩
  have hit : RawI "dict_valueiterator" [] s.heap it d i ds.size ep [] := by rw [hi]; exact hit
  obtain ⟨od, hod, _, hdd⟩ := id hm
  have e0 : s.heap.get? it = some { cls := .type "dict_valueiterator", dict := none, data := .fields #[.ref d, .int i 0, .int ds.size 0, .int ep 0], slots := #[] } := hit
  have hT : s.TypeIs (.ref it) "dict_valueiterator" := ⟨_, e0, rfl⟩
  refine wpAny_bind (wpAny_attempt (wpAny_callSpecial?_slot (name := Str.ofString "__next__") hT F.slot_dict_valueiterator_next (wpAny_call_entry F.slot_dict_valueiterator_next hT F.entry_dict_valueiterator_next ?_ (F.args_dict_valueiterator_next_1 _))))
  refine wpAny_bind (wpAny_pure ?_)
  refine wpAny_bind (wpAny_bind (wpAny_bind (wpAny_typeNameOfWhole_valiter hT (wpAny_pure ?_))))
  refine wpAny_bind (wpAny_fieldsOf e0 rfl ?_)
  simp only [show Builtin.Dict_items.ownsTuple "dict_valueiterator" = false by decide, Bool.false_eq_true, if_false, if_true]
  show wpAny _ _ (if (Value.ref d == Value.none) = true then _ else _) _ _ s
  rw [if_neg (show ¬ ((Value.ref d == Value.none) = true) from Bool.false_ne_true)]
  refine wpAny_bind (wpAny_pure (wpAny_bind (wpAny_dictEntries hod hdd ?_)))
  rw [if_neg (by simp)]
  refine wpAny_bind (wpAny_pure (wpAny_bind (wpAny_dictEpoch hod hdd ?_)))
  rw [if_neg (by simp)]
  refine wpAny_pure ?_
  simp only [show ¬ ((i : Int) < 0) from by exact o131, if_false, Int.toNat_natCast, Array.getElem?_eq_none (show ds.size ≤ i by exact o133 hi)]
  refine wpAny_bind (wpAny_bind (wpAny_typeNameOfWhole_valiter hT (wpAny_pure ?_)))
  show wpAny _ _ (setField (.ref it) 0 .none >>= _) _ _ s
  refine wpAny_bind (wpAny_setField_rec e0 (by simp) fun h₁ e₁ b₁ => ?_)
  replace b₁ : Heap.SameBut it s.heap h₁ := b₁
  exact stop_raised (it := it) hh rfl fun h' k => hQ h' fun b o e n => k b o ((b₁.2 b n).trans e)
theorem next_item {it d : Addr} {i ep : Nat} {ds : Array DictEntry} {ok ov : Value} {Q : Option Value → Shared → Prop} (hit : RawI "dict_itemiterator" [.none, .bool false] s.heap it d i ds.size ep [ok, ov]) (hm : RawD s.heap d ds ep) (hi : i < ds.size)
    (hQ : ∀ h', RawI "dict_itemiterator" [rawInt s.heap.objs.size, .bool false] h' it d (i + 1) ds.size ep [ds[i].key, ds[i].val] → h'.get? s.heap.objs.size = some (tupObj [ds[i].key, ds[i].val] 0) → (∀ b o, s.heap.get? b = some o → b ≠ it → h'.get? b = some o) → Q (some (.ref s.heap.objs.size)) { s with heap := h' }) : wpAny (model prog w) A (pyNext (.ref it)) Q E s := by
  obtain ⟨od, hod, _, hdd⟩ := id hm
  have e0 : s.heap.get? it = some { cls := .type "dict_itemiterator", dict := none, data := .fields #[.none, .bool false, .ref d, .int i 0, .int ds.size 0, .int ep 0, ok, ov], slots := #[] } := hit
  have hT : s.TypeIs (.ref it) "dict_itemiterator" := ⟨_, e0, rfl⟩
  refine wpAny_bind (wpAny_attempt (wpAny_callSpecial?_slot (name := Str.ofString "__next__") hT F.slot_dict_itemiterator_next (wpAny_call_entry F.slot_dict_itemiterator_next hT F.entry_dict_itemiterator_next ?_ (F.args_dict_itemiterator_next_1 _))))
  refine wpAny_bind (wpAny_pure ?_)
  refine wpAny_bind (wpAny_bind (wpAny_bind (wpAny_typeNameOfWhole_itemiter hT (wpAny_pure ?_))))
  refine wpAny_bind (wpAny_fieldsOf e0 rfl ?_)
  simp only [show Builtin.Dict_items.ownsTuple "dict_itemiterator" = true by decide, Bool.false_eq_true, if_false, if_true]
  show wpAny _ _ (if (Value.ref d == Value.none) = true then _ else _) _ _ s
  rw [if_neg (show ¬ ((Value.ref d == Value.none) = true) from Bool.false_ne_true)]
  refine wpAny_bind (wpAny_pure (wpAny_bind (wpAny_dictEntries hod hdd ?_)))
  rw [if_neg (by simp)]
  refine wpAny_bind (wpAny_pure (wpAny_bind (wpAny_dictEpoch hod hdd ?_)))
  rw [if_neg (by simp)]
  refine wpAny_pure ?_
  simp only [show ¬ ((i : Int) < 0) from by exact o131, if_false, Int.toNat_natCast, Array.getElem?_eq_getElem hi]
  refine wpAny_bind (wpAny_bind (wpAny_typeNameOfWhole_itemiter hT (wpAny_pure ?_)))
  refine wpAny_bind (wpAny_isOneOf_itemiter hT ?_)
  show wpAny _ _ (setField (.ref it) 3 (rawInt ((i : Int) + 1)) >>= _) _ _ s
  refine wpAny_bind (wpAny_setField_rec e0 (by simp) fun h₁ e₁ b₁ => ?_)
  replace b₁ : Heap.SameBut it s.heap h₁ := b₁
  replace e₁ : h₁.get? it = some { cls := .type "dict_itemiterator", dict := none, data := .fields #[.none, .bool false, .ref d, .int ((i + 1 : Nat) : Int) 0, .int ds.size 0, .int ep 0, ok, ov], slots := #[] } := by
    rw [show ((i + 1 : Nat) : Int) = (i : Int) + 1 by exact o132]; simpa [rawInt] using e₁
  refine wpAny_bind (wpAny_holding ?_)
  refine wpAny_bind (wpAny_isOneOf_itemiter (s := { s with heap := h₁ }) ⟨_, e₁, rfl⟩ ?_)
  refine wpAny_bind (wpAny_isOneOf_itemiter (s := { s with heap := h₁ }) ⟨_, e₁, rfl⟩ ?_)
  show wpAny _ _ (Builtin.Dict_items.pairFromOwner (.ref it) 6 ds[i].key ds[i].val) _ _ { s with heap := h₁ }
  generalize ds[i].key = key at hQ ⊢
  generalize ds[i].val = val at hQ ⊢
  have sz₁ : h₁.objs.size = s.heap.objs.size := b₁.1
  have ltI : it < s.heap.objs.size := Heap.lt_size e0
  refine wpAny_bind (wpAny_newTuple ?_)
  have t₂ : (h₁.push { cls := .type "tuple", data := .seq #[key, val] }).get? s.heap.objs.size = some (tupObj [key, val] 0) := by rw [← sz₁]; exact Heap.get?_push_size _ rfl
  have e₂ : (h₁.push { cls := .type "tuple", data := .seq #[key, val] }).get? it = _ := Heap.get?_push_of_some _ e₁
  have k₂ : ∀ b o, s.heap.get? b = some o → b ≠ it → (h₁.push { cls := .type "tuple", data := .seq #[key, val] }).get? b = some o := fun b o e n => Heap.get?_push_of_some _ ((b₁.2 b n).trans e)
  show wpAny _ _ (Builtin.Dict_items.ownedTupleIsFree (.ref it) >>= _) _ _ { s with heap := h₁.push { cls := .type "tuple", data := .seq #[key, val] } }
  rw [show ({ s with heap := h₁ } : Shared).heap.objs.size = s.heap.objs.size from sz₁]
  generalize h₁.push { cls := .type "tuple", data := .seq #[key, val] } = h₂ at t₂ e₂ k₂ ⊢
  clear e₁ b₁ sz₁
  refine wpAny_bind ?_
  refine wpAny_bind (wpAny_field (s := { s with heap := h₂ }) e₂ rfl (x := .none) rfl (wpAny_pure ?_))
  simp only [if_true]
  refine wpAny_bind (wpAny_field (s := { s with heap := h₂ }) e₂ rfl (x := ok) rfl (wpAny_bind (wpAny_field (s := { s with heap := h₂ }) e₂ rfl (x := ov) rfl ?_)))
  refine wpAny_bind (wpAny_setField_rec (s := { s with heap := h₂ }) e₂ (by simp) fun h₃ e₃ b₃ => ?_)
  refine wpAny_bind (wpAny_setField_rec (s := { s with heap := h₃ }) e₃ (by simp) fun h₄ e₄ b₄ => ?_)
  refine wpAny_bind (wpAny_setField_rec (s := { s with heap := h₄ }) e₄ (by simp) fun h₅ e₅ b₅ => ?_)
  refine wpAny_bind (wpAny_setField_rec (s := { s with heap := h₅ }) e₅ (by simp) fun h₆ e₆ b₆ => ?_)
  replace b₃ : Heap.SameBut it h₂ h₃ := b₃
  replace b₄ : Heap.SameBut it h₃ h₄ := b₄
  replace b₅ : Heap.SameBut it h₄ h₅ := b₅
  replace b₆ : Heap.SameBut it h₅ h₆ := b₆
  have up : ∀ b o, h₂.get? b = some o → b ≠ it → h₆.get? b = some o := fun b o e n => (b₆.2 b n).trans ((b₅.2 b n).trans ((b₄.2 b n).trans ((b₃.2 b n).trans e)))
  refine wpAny_bind (wpAny_letGo (wpAny_pure (wpAny_pure ⟨_, rfl, wpAny_pure (hQ h₆ ?_ (up _ _ t₂ (Nat.ne_of_gt ltI)) fun b o e n => up b o (k₂ b o e n) n)⟩)))
  unfold RawI
  rw [show h₆.get? it = _ from e₆]
  simp [Array.setIfInBounds, rawInt]
theorem end_item {it d : Addr} {ep : Nat} {ds : Array DictEntry} {ok ov : Value} {Q : Option Value → Shared → Prop} (hh : A.handled = none) (hit : RawI "dict_itemiterator" [.none, .bool false] s.heap it d ds.size ds.size ep [ok, ov]) (hm : RawD s.heap d ds ep)
    (hQ : ∀ h', (∀ b o, s.heap.get? b = some o → b ≠ it → h'.get? b = some o) → Q none { s with heap := h' }) : wpAny (model prog w) A (pyNext (.ref it)) Q E s := by
  obtain ⟨i, hi⟩ : ∃ i, i = ds.size := ⟨_, rfl⟩
  have hit : RawI "dict_itemiterator" [.none, .bool false] s.heap it d i ds.size ep [ok, ov] := by rw [hi]; exact hit
  obtain ⟨od, hod, _, hdd⟩ := id hm
  have e0 : s.heap.get? it = some { cls := .type "dict_itemiterator", dict := none, data := .fields #[.none, .bool false, .ref d, .int i 0, .int ds.size 0, .int ep 0, ok, ov], slots := #[] } := hit
  have hT : s.TypeIs (.ref it) "dict_itemiterator" := ⟨_, e0, rfl⟩
  refine wpAny_bind (wpAny_attempt (wpAny_callSpecial?_slot (name := Str.ofString "__next__") hT F.slot_dict_itemiterator_next (wpAny_call_entry F.slot_dict_itemiterator_next hT F.entry_dict_itemiterator_next ?_ (F.args_dict_itemiterator_next_1 _))))
  refine wpAny_bind (wpAny_pure ?_)
  refine wpAny_bind (wpAny_bind (wpAny_bind (wpAny_typeNameOfWhole_itemiter hT (wpAny_pure ?_))))
  refine wpAny_bind (wpAny_fieldsOf e0 rfl ?_)
  simp only [show Builtin.Dict_items.ownsTuple "dict_itemiterator" = true by decide, Bool.false_eq_true, if_false, if_true]
  show wpAny _ _ (if (Value.ref d == Value.none) = true then _ else _) _ _ s
  rw [if_neg (show ¬ ((Value.ref d == Value.none) = true) from Bool.false_ne_true)]
  refine wpAny_bind (wpAny_pure (wpAny_bind (wpAny_dictEntries hod hdd ?_)))
  rw [if_neg (by simp)]
  refine wpAny_bind (wpAny_pure (wpAny_bind (wpAny_dictEpoch hod hdd ?_)))
  rw [if_neg (by simp)]
  refine wpAny_pure ?_
  simp only [show ¬ ((i : Int) < 0) from by exact o131, if_false, Int.toNat_natCast, Array.getElem?_eq_none (show ds.size ≤ i by exact o133 hi)]
  refine wpAny_bind (wpAny_bind (wpAny_typeNameOfWhole_itemiter hT (wpAny_pure ?_)))
  show wpAny _ _ (setField (.ref it) 2 .none >>= _) _ _ s
  refine wpAny_bind (wpAny_setField_rec e0 (by simp) fun h₁ e₁ b₁ => ?_)
  replace b₁ : Heap.SameBut it s.heap h₁ := b₁
  exact stop_raised (it := it) hh rfl fun h' k => hQ h' fun b o e n => k b o ((b₁.2 b n).trans e)
end
end Mine
end
section
open PySem PySem.W PySem.Calls PyProof.Rows PySem.SeqAt
set_option linter.unusedSectionVars false
set_option linter.unusedVariables false
set_option maxRecDepth 100000
namespace Mine
variable [ζ : Dead]
section
variable {prog : Program} {w : World} {A : Around} {E : Value → Shared → Prop} {s : Shared} {d : Addr} {ds : Array DictEntry} {ep : Nat}
theorem view_is {c : String} {v : Addr} (e : s.heap.get? v = some (viewObj c d)) : s.TypeIs (.ref v) c := ⟨_, e, rfl⟩
theorem iter_keys {Q : Value → Shared → Prop} (hd : (d == sysModules) = false) (hm : RawD s.heap d ds ep)
    (h : Q (.ref s.heap.objs.size) { s with heap := s.heap.push { cls := .type "dict_keyiterator", data := .fields #[.ref d, .int 0 0, .int ds.size 0, .int ep 0] } }) : wpAny (model prog w) A (pyIter (.ref d)) Q E s := by
  have hT := hm.typeIs
  obtain ⟨o, ho, _, hdat⟩ := id hm
  refine wpAny_pyIter_slot hT F.slot_dict_iter (wpAny_call_entry F.slot_dict_iter hT F.entry_dict_iter ?_ (F.args_dict_iter_1 _))
  refine wpAny_bind (wpAny_bind (wpAny_notOrdered_dict hT ?_))
  show wpAny _ _ (pure (Value.ref d)) _ _ s
  refine wpAny_pure ?_
  show wpAny _ _ (Builtin.Dict.showsAll d >>= _) _ _ s
  unfold Builtin.Dict.showsAll
  rw [if_neg (by rw [hd]; exact Bool.false_ne_true)]
  refine wpAny_bind (wpAny_pure (wpAny_bind (wpAny_dictEntries ho hdat (wpAny_bind (wpAny_dictEpoch ho hdat ?_)))))
  exact wpAny_bind (wpAny_newObj_type (wpAny_pure ⟨_, rfl, "dict_keyiterator", _, ⟨_, Heap.get?_push_size _ rfl, rfl⟩, F.slot_dict_keyiterator_next.lookup, h⟩))
theorem iter_vals {v : Addr} {Q : Value → Shared → Prop} (e : s.heap.get? v = some (viewObj "dict_values" d)) (hm : RawD s.heap d ds ep)
    (h : Q (.ref s.heap.objs.size) { s with heap := s.heap.push { cls := .type "dict_valueiterator", data := .fields #[.ref d, .int 0 0, .int ds.size 0, .int ep 0] } }) : wpAny (model prog w) A (pyIter (.ref v)) Q E s := by
  obtain ⟨o, ho, _, hdat⟩ := id hm
  refine wpAny_pyIter_slot (view_is e) F.slot_dict_values_iter (wpAny_call_entry F.slot_dict_values_iter (view_is e) F.entry_dict_values_iter ?_ (F.args_dict_values_iter_1 _))
  refine wpAny_bind (wpAny_pure (wpAny_bind (wpAny_bind (wpAny_field e rfl (x := .ref d) rfl (wpAny_pure ?_)))))
  refine wpAny_bind ?_
  refine wpAny_bind (wpAny_dictEntries ho hdat (wpAny_bind (wpAny_dictEpoch ho hdat ?_)))
  simp only [show Builtin.Dict_items.ownsTuple "dict_valueiterator" = false by decide, Bool.false_eq_true, if_false]
  exact wpAny_newObj_type (wpAny_pure ⟨_, rfl, "dict_valueiterator", _, ⟨_, Heap.get?_push_size _ rfl, rfl⟩, F.slot_dict_valueiterator_next.lookup, h⟩)
theorem iter_its {v : Addr} {Q : Value → Shared → Prop} (e : s.heap.get? v = some (viewObj "dict_items" d)) (hm : RawD s.heap d ds ep)
    (h : Q (.ref s.heap.objs.size) { s with heap := s.heap.push { cls := .type "dict_itemiterator", data := .fields #[.none, .bool false, .ref d, .int 0 0, .int ds.size 0, .int ep 0, .none, .none] } }) : wpAny (model prog w) A (pyIter (.ref v)) Q E s := by
  obtain ⟨o, ho, _, hdat⟩ := id hm
  refine wpAny_pyIter_slot (view_is e) F.slot_dict_items_iter (wpAny_call_entry F.slot_dict_items_iter (view_is e) F.entry_dict_items_iter ?_ (F.args_dict_items_iter_1 _))
  refine wpAny_bind (wpAny_pure (wpAny_bind (wpAny_bind (wpAny_field e rfl (x := .ref d) rfl (wpAny_pure ?_)))))
  refine wpAny_bind ?_
  refine wpAny_bind (wpAny_dictEntries ho hdat (wpAny_bind (wpAny_dictEpoch ho hdat ?_)))
  simp only [show Builtin.Dict_items.ownsTuple "dict_itemiterator" = true by decide, if_true]
  exact wpAny_newObj_type (wpAny_pure ⟨_, rfl, "dict_itemiterator", _, ⟨_, Heap.get?_push_size _ rfl, rfl⟩, F.slot_dict_itemiterator_next.lookup, h⟩)
    (by simp only [sizeOk, Builtin.Dict_items.ownedTupleFields, List.size_toArray, List.length_append, List.length_cons, List.length_nil, sizeLine_eq]; exact o136)
theorem view_made {c : String} {K : Builtin} (hd : (d == sysModules) = false) (hT : s.TypeIs (.ref d) "dict") {Q : Fin → Shared → Prop} {nm : String}
    (h : Q (.done (.ret (.ref s.heap.objs.size))) { s with heap := s.heap.push (viewObj c d) }) : wpAny (model prog w) A (do
      let d ← Builtin.Dict.noArgs nm ⟨[.ref d], []⟩
      Builtin.Dict.showsAll d
      ret (← newFields c [.ref d])) Q E s := by
  refine wpAny_bind (wpAny_bind (wpAny_notOrdered_dict hT ?_))
  show wpAny _ _ (pure d) _ _ s
  refine wpAny_pure ?_
  unfold Builtin.Dict.showsAll
  rw [if_neg (by rw [hd]; exact Bool.false_ne_true)]
  refine wpAny_bind (wpAny_pure ?_)
  exact wpAny_bind (wpAny_newObj_type (wpAny_pure h))
end
section
variable {g : G} {F : Fm} {m : Loc} {H : AH} {s : Shared} {X : Value → List V → Loc → AH → Prop} {Q : V → Loc → AH → Prop}
theorem DictV.raw {P : Params} {h : Heap} {d : Addr} {es : List (Int × V)} {ep : Nat} (D : DictV P h d es ep) : ∃ ds, RawD h d ds ep ∧ ds.size = es.length ∧ ∀ i (hi : i < ds.size), ∃ e, es[i]? = some e ∧ VR h (cd e.1) ds[i].key ∧ VR h e.2 ds[i].val := by
  obtain ⟨o, ds, ho, hc, hd, er, nd⟩ := D
  have sz : ds.size = es.length := by have := er_len er; simpa using this
  refine ⟨ds, ⟨o, ho, hc.1, hd⟩, sz, fun i hi => ?_⟩
  have hi' : i < es.length := by exact o109 sz hi
  obtain ⟨key, v, e1, e2, e3⟩ := er_at er (List.getElem?_eq_getElem hi')
  rw [Array.getElem?_toList, Array.getElem?_eq_getElem hi] at e1
  have e1 := Option.some.inj e1
  exact ⟨es[i], List.getElem?_eq_getElem hi', by rw [e1]; exact e2, by rw [e1]; exact e3⟩
theorem St.notMods {d : Addr} {o : O} (S : St g F m H s) (hd : H d = some o) : (d == sysModules) = false := by
  have h1 := (S.obj d o hd).1
  obtain ⟨x, hx⟩ := g.sysm
  refine beq_eq_false_iff_ne.mpr fun q => ?_
  subst q; rw [hx] at h1; cases h1
theorem imm_off {it : Addr} {h h' : Heap} {o : Obj} {c : String} (e : h.get? it = some o) (hc : o.cls = .type c) (hi : immC (.type c) = false) (hs : ∀ b o, h.get? b = some o → b ≠ it → h'.get? b = some o) : ∀ a o, Imm a o → h.get? a = some o → h'.get? a = some o := fun a o' im ea =>
  hs a o' ea fun q => by subst q; rw [e] at ea; cases ea; have := im.cls; rw [hc, hi] at this; cases this
theorem it_dict {d : Addr} {es : List (Int × V)} {ep : Nat} : Iterable g (.ref d) es.length (fun i => cd (es.getD i (0, .none)).1) (fun H => H d = some (.dict es ep)) := fun F m H s v S c r Q E h => by
  rw [VR.ref_iff] at r; subst r
  obtain ⟨ds, R, sz, _⟩ := DictV.raw (S.obj d _ c).2
  refine iter_keys (S.notMods c) R (h _ (fun i h => RawI "dict_keyiterator" [] h s.heap.objs.size d i es.length ep []) (fun F' hh => ?_) rfl (by rw [← sz]; exact Heap.get?_push_size _ rfl))
  refine .plain (S.okn (Nat.le_refl _)) (fun i h e => ⟨_, _, _, e, rfl, rfl, rfl, by decide⟩) (fun i h h' e q _ => q.trans e) (fun i m H s Q E hi S p c hq => ?_) (fun i s Q E p h => ?_) (fun m H s Q E S p c hq => ?_)
  · obtain ⟨ds, R, sz, at'⟩ := DictV.raw (S.obj d _ c).2
    obtain ⟨e, e1, e2, _⟩ := at' i (by exact o38 sz hi)
    rw [← sz] at p
    refine next_key p R (by exact o38 sz hi) fun h' p' hs => hq h' s.toks _ ?_ (by rw [← sz]; exact p') (fun c o' e' n => (hs.2 c n).trans e')
    rw [List.getD_eq_getElem?_getD, e1]
    exact e2.mono (imm_off p rfl rfl fun b o e n => (hs.2 b n).trans e)
  · refine wpAny_pyIter_slot ⟨_, p, rfl⟩ PySem.F.slot_dict_keyiterator_iter (wpAny_call_entry PySem.F.slot_dict_keyiterator_iter ⟨_, p, rfl⟩ PySem.F.entry_dict_keyiterator_iter ?_ (PySem.F.args_dict_keyiterator_iter_1 _))
    exact wpAny_pure ⟨_, rfl, _, _, ⟨_, p, rfl⟩, PySem.F.slot_dict_keyiterator_next.lookup, h⟩
  · obtain ⟨ds, R, sz, _⟩ := DictV.raw (S.obj d _ c).2
    rw [← sz] at p
    exact end_key hh p R fun h' hs => hq h' s.toks hs
theorem it_values {d : Addr} {es : List (Int × V)} {ep : Nat} : Iterable g (.view "dict_values" d) es.length (fun i => (es.getD i (0, .none)).2) (fun H => H d = some (.dict es ep)) := fun F m H s v S c r Q E h => by
  obtain ⟨w, rfl, _, ew⟩ := r
  obtain ⟨ds, R, sz, _⟩ := DictV.raw (S.obj d _ c).2
  refine iter_vals ew R (h _ (fun i h => RawI "dict_valueiterator" [] h s.heap.objs.size d i es.length ep []) (fun F' hh => ?_) rfl (by rw [← sz]; exact Heap.get?_push_size _ rfl))
  refine .plain (S.okn (Nat.le_refl _)) (fun i h e => ⟨_, _, _, e, rfl, rfl, rfl, by decide⟩) (fun i h h' e q _ => q.trans e) (fun i m H s Q E hi S p c hq => ?_) (fun i s Q E p h => ?_) (fun m H s Q E S p c hq => ?_)
  · obtain ⟨ds, R, sz, at'⟩ := DictV.raw (S.obj d _ c).2
    obtain ⟨e, e1, _, e2⟩ := at' i (by exact o38 sz hi)
    rw [← sz] at p
    refine next_val p R (by exact o38 sz hi) fun h' p' hs => hq h' s.toks _ ?_ (by rw [← sz]; exact p') (fun c o' e' n => (hs.2 c n).trans e')
    rw [List.getD_eq_getElem?_getD, e1]
    exact e2.mono (imm_off p rfl rfl fun b o e n => (hs.2 b n).trans e)
  · exact wpAny_pyIter_valiter (i := i) (n := es.length) (ep := ep) (d := d) ⟨_, p, rfl, rfl⟩ h
  · obtain ⟨ds, R, sz, _⟩ := DictV.raw (S.obj d _ c).2
    rw [← sz] at p
    exact end_val hh p R fun h' hs => hq h' s.toks hs
theorem entry_itemiter : entryFor table "dict_itemiterator.__iter__" = some Builtin.«dict_keyiterator.__iter__» :=
  entryFor_alias (id' := "dict_keyiterator.__iter__") (by kernel_rfl) (by first | rfl | decide +kernel | (unfold String.splitOn; simp +decide [String.splitOnAux])) (by decide +kernel) (by kernel_rfl)
theorem it_items {d : Addr} {es : List (Int × V)} {ep : Nat} : IterableT g tupT (.view "dict_items" d) es.length (fun i => .tup [cd (es.getD i (0, .none)).1, (es.getD i (0, .none)).2]) (fun H => H d = some (.dict es ep)) := fun F m H s v S c r Q E h => by
  obtain ⟨w, rfl, _, ew⟩ := r
  obtain ⟨ds, R, sz, _⟩ := DictV.raw (S.obj d _ c).2
  refine iter_its ew R (h _ (fun i h => ∃ ok ov, RawI "dict_itemiterator" [.none, .bool false] h s.heap.objs.size d i es.length ep [ok, ov]) (fun F' hh => ?_) rfl ⟨.none, .none, by rw [← sz]; exact Heap.get?_push_size _ rfl⟩)
  have hk : okA s.heap.objs.size := S.okn (Nat.le_refl _)
  refine ⟨fun i h qq1 => qq1.elim fun ok qq2 => qq2.elim fun ov e => one ⟨_, e, fun _ _ q => (by cases q), fun _ q => (by cases q), fun z => (by have := z.cls; cases this)⟩, fun i h h' qq3 q _ => qq3.elim fun ok qq4 => qq4.elim fun ov e => ⟨ok, ov, (q _ (List.mem_singleton_self _)).trans e⟩, fun i m H s Q E hi S p c hq => ?_, fun i s Q E p h => ?_, fun m H s Q E S p c hq => ?_⟩
  · obtain ⟨ok, ov, p⟩ := p
    obtain ⟨ds, R, sz, at'⟩ := DictV.raw (S.obj d _ c).2
    obtain ⟨e, e1, e2, e3⟩ := at' i (by exact o38 sz hi)
    rw [← sz] at p
    refine next_item p R (by exact o38 sz hi) fun h' p' t' hs => hq h' s.toks _ fun target ht Q' E' k => ?_
    cases target <;> first | (cases ht; done) | skip
    rename_i elts cx pos
    refine wpAny_letOwnedTupleGo_items (s := { s with heap := h', toks := s.toks }) p' fun h'' p'' hs'' => ?_
    have lt := Heap.lt_size (show s.heap.get? _ = some _ from p)
    have up : ∀ b o, s.heap.get? b = some o → b ≠ _ → h''.get? b = some o := fun b o e n => (hs''.2 b n).trans (hs b o e n)
    have im := imm_off p rfl rfl up
    refine k h'' ?_ ⟨_, _, by rw [← sz]; exact p''⟩ fun c o' e' n => up c o' e' fun z => n (by rw [z]; exact List.mem_singleton_self _)
    rw [List.getD_eq_getElem?_getD, e1]
    exact .tup' (S.okn (Nat.le_refl _)) ((hs''.2 _ (Nat.ne_of_gt lt)).trans t') (.cons (e2.mono im) (.cons (e3.mono im) .nil'))
  · obtain ⟨ok, ov, p⟩ := p
    refine wpAny_pyIter_slot ⟨_, p, rfl⟩ PySem.F.slot_dict_itemiterator_iter (wpAny_call_entry PySem.F.slot_dict_itemiterator_iter ⟨_, p, rfl⟩ entry_itemiter ?_ (PySem.F.args_dict_itemiterator_iter_1 _))
    exact wpAny_pure ⟨_, rfl, _, _, ⟨_, p, rfl⟩, PySem.F.slot_dict_itemiterator_next.lookup, h⟩
  · obtain ⟨ok, ov, p⟩ := p
    obtain ⟨ds, R, sz, _⟩ := DictV.raw (S.obj d _ c).2
    rw [← sz] at p
    exact end_item hh p R fun h' hs => hq h' s.toks (fun c o' e' n => hs c o' e' fun z => n (by rw [z]; exact List.mem_singleton_self _)) (one (.inl hk))
theorem St.dictAt {d : Addr} {es : List (Int × V)} {ep : Nat} (S : St g F m H s) (hd : H d = some (.dict es ep)) : DictV g.w.params s.heap d es ep := (S.obj d _ hd).2
theorem room9 (S : St g F m H s) : F.A.units + 2000 < cLine := by
  have h := S.room
  rw [show cLine = 9900 from rfl]
  exact o419 h
theorem DictV.typ {d : Addr} {es : List (Int × V)} {ep : Nat} {P : Params} (D : DictV P s.heap d es ep) : s.TypeIs (.ref d) "dict" := (D).elim fun o qq1 => qq1.elim fun _ qq2 => qq2.elim fun ho qq3 => qq3.elim fun hc _ => ⟨o, ho, hc.1⟩
theorem c_view {c : String} {id nm : String} {B : Builtin} {d : Addr} {es : List (Int × V)} {ep : Nat} (hc : viewCls.contains c = true) (hd : H d = some (.dict es ep)) (h : Q (.view c d) m H)
    (hcall : ∀ (A : Around) (s : Shared) (Q' : Value → Shared → Prop) (E : Value → Shared → Prop), (d == sysModules) = false → s.TypeIs (.ref d) "dict" → Q' (.ref s.heap.objs.size) { s with heap := s.heap.push (viewObj c d) } → wpAny (model g.prog g.w) A (call (.builtin id) [.ref d]) Q' E s) : WC g F (.builtin id) [.ref d] m H Q X := wc1 fun s v S r => by
  rw [VR.ref_iff] at r; subst r
  obtain ⟨S', K'⟩ := S.ext (t := s.toks) (h' := s.heap.push (viewObj c d)) (fun _ _ e => Heap.get?_push_of_some _ e)
  refine hcall _ _ _ _ (S.notMods hd) (S.dictAt hd).typ ⟨.view c d, m, H, ?_, S', K', h⟩
  exact ⟨_, rfl, hc, Heap.get?_push_size _ rfl⟩
theorem c_values {d : Addr} {es : List (Int × V)} {ep : Nat} (hd : H d = some (.dict es ep)) (h : Q (.view "dict_values" d) m H) : WC g F (.builtin "dict.values") [.ref d] m H Q X :=
  c_view (nm := "values") (B := Builtin.«dict.values») (by decide) hd h fun A s Q' E nm hT k => wpAny_call_entry PySem.F.slot_dict_values hT PySem.F.entry_dict_values (view_made (c := "dict_values") (nm := "values") (K := Builtin.«dict.values») nm hT ⟨_, rfl, k⟩) (PySem.F.args_dict_values_1 _)
theorem c_items {d : Addr} {es : List (Int × V)} {ep : Nat} (hd : H d = some (.dict es ep)) (h : Q (.view "dict_items" d) m H) : WC g F (.builtin "dict.items") [.ref d] m H Q X :=
  c_view (nm := "items") (B := Builtin.«dict.items») (by decide) hd h fun A s Q' E nm hT k => wpAny_call_entry PySem.F.slot_dict_items hT PySem.F.entry_dict_items (view_made (c := "dict_items") (nm := "items") (K := Builtin.«dict.items») nm hT ⟨_, rfl, k⟩) (PySem.F.args_dict_items_1 _)
end
end Mine
end
section
open PySem PySem.W PySem.Calls PyProof.Rows PySem.SeqAt
set_option linter.unusedSectionVars false
set_option linter.unusedVariables false
set_option maxRecDepth 100000
namespace Mine
variable [ζ : Dead]
section
variable {prog : Program} {w : World} {A : Around} {E : Value → Shared → Prop} {s : Shared}
theorem call_dget {d : Addr} {es : List (Int × V)} {ep : Nat} {k : Int} {key : Value} {Q : Value → Shared → Prop} (hu : A.units + 2000 < cLine) (hd : (d == sysModules) = false) (D : DictV w.params s.heap d es ep) (hk : VR s.heap (cd k) key)
    (h : ∀ tk v, VR s.heap ((dget es k).getD .none) v → Q v { s with toks := tk }) : wpAny (model prog w) A (call (.builtin "dict.get") [.ref d, key]) Q E s := by
  refine wpAny_call_entry PySem.F.slot_dict_get D.typ PySem.F.entry_dict_get ?_ (PySem.F.args_dict_get_2 _ _)
  show wpAny _ _ (dictGet d key >>= _) _ _ s
  refine wpAny_bind (dictGet_V (by show A.units + 1 + 9 < cLine; exact o139 hu) D hk fun tk => ?_)
  cases q : dget es k with
  | some x =>
    rw [q] at h
    exact fun v rv => wpAny_pure ⟨v, rfl, h tk v rv⟩
  | none =>
    rw [q] at h
    show wpAny _ _ (Builtin.Dict.missed d key >>= _) _ _ _
    exact wpAny_bind (wpAny_missed_other hd (wpAny_pure ⟨.none, rfl, h tk _ .none'⟩))
theorem get_ditem {d : Addr} {es : List (Int × V)} {ep : Nat} {k : Int} {key : Value} {x : V} {Q : Value → Shared → Prop} (hu : A.units + 2000 < cLine) (D : DictV w.params s.heap d es ep) (hk : VR s.heap (cd k) key) (hx : dget es k = some x)
    (h : ∀ tk v, VR s.heap x v → Q v { s with toks := tk }) : wpAny (model prog w) A (getItem (.ref d) key) Q E s := by
  unfold getItem
  try with_reducible refine wpAny_holding ?_
  refine wpAny_bind (wpAny_sequenceKey D.typ (by decide) ?_)
  refine wpAny_bind (wpAny_callSpecial?_slot (name := Str.ofString "__getitem__") D.typ slot_dict_getitem (wpAny_call_entry slot_dict_getitem D.typ entry_dict_getitem ?_ (args_dict_getitem _ _)))
  show wpAny _ _ (dictGet d key >>= _) _ _ s
  refine wpAny_bind (dictGet_V (by show A.units + 1 + 9 < cLine; exact o139 hu) D hk fun tk => ?_)
  rw [hx]
  exact fun v rv => wpAny_pure ⟨v, rfl, wpAny_pure (h tk v rv)⟩
theorem in_dict {d : Addr} {es : List (Int × V)} {ep : Nat} {k : Int} {key : Value} {Q : Value → Shared → Prop} (hu : A.units + 2000 < cLine) (hd : (d == sysModules) = false) (D : DictV w.params s.heap d es ep) (hk : VR s.heap (cd k) key)
    (h : ∀ tk, Q (.bool (dget es k).isSome) { s with toks := tk }) : wpAny (model prog w) A (compareOp .In key (.ref d)) Q E s := by
  show wpAny _ _ (do return .bool (← contains (.ref d) key)) Q E s
  refine wpAny_bind ?_
  unfold contains
  try with_reducible refine wpAny_holding ?_
  refine wpAny_bind (wpAny_specialOf D.typ slot_dict_contains.lookup ?_)
  show wpAny _ _ (if (some (Value.builtin "dict.__contains__") == some Value.none) = true then _ else _) _ E s
  rw [if_neg (by rw [beq_builtin_none]; exact Bool.false_ne_true)]
  refine wpAny_bind (wpAny_callSpecialUnlessNone?_slot (name := Str.ofString "__contains__") D.typ slot_dict_contains (wpAny_call_entry slot_dict_contains D.typ entry_dict_contains ?_ (args_dict_contains _ _)))
  show wpAny _ _ (dictGet d key >>= _) _ _ s
  refine wpAny_bind (dictGet_V (by show A.units + 1 + 9 < cLine; exact o139 hu) D hk fun tk => ?_)
  have h := h tk
  cases q : dget es k with
  | some x => rw [q] at h; exact fun v rv => (show wpAny _ _ (ret (.bool true)) _ _ _ from wpAny_pure ⟨_, rfl, wpAny_truthy_bool (wpAny_pure h)⟩)
  | none =>
    rw [q] at h
    show wpAny _ _ (Builtin.Dict.pendingKey? d key >>= _) _ _ _
    exact wpAny_bind (wpAny_pendingKey_other hd (wpAny_pure ⟨_, rfl, wpAny_truthy_bool (wpAny_pure h)⟩))
theorem set_ditem {d : Addr} {es : List (Int × V)} {ep : Nat} {k : Int} {key v : Value} {x : V} {Q : Unit → Shared → Prop} (hu : A.units + 2000 < cLine) (D : DictV w.params s.heap d es ep) (hk : VR s.heap (cd k) key) (hx : VR s.heap x v) (hz : es.length ≤ sizeLine)
    (h : ∀ tk h' ep', DictV w.params h' d (dput es k x) ep' → Heap.SameBut d s.heap h' → Q () { s with heap := h', toks := tk }) : wpAny (model prog w) A (setItem (.ref d) key v) Q E s := by
  unfold setItem
  try with_reducible refine wpAny_holding ?_
  refine wpAny_bind (wpAny_sequenceKey D.typ (by decide) ?_)
  refine wpAny_bind (wpAny_callSpecial?_slot (name := Str.ofString "__setitem__") D.typ slot_dict_setitem (wpAny_call_entry slot_dict_setitem D.typ entry_dict_setitem ?_ (args_dict_setitem _ _ _)))
  show wpAny _ _ (Builtin.Dict.notOrdered "__setitem__" ⟨[.ref d, key, v], []⟩ >>= _) _ _ s
  refine wpAny_bind (wpAny_notOrdered_dict D.typ ?_)
  show wpAny _ _ (dictSet d key v >>= _) _ _ s
  exact wpAny_bind (dictSet_V (by show A.units + 1 + 9 < cLine; exact o139 hu) D hk hx hz fun tk h' ep' D' hs => wpAny_pure ⟨.none, rfl, wpAny_pure (h tk h' ep' D' hs)⟩)
theorem SetV.typeIs {a : Addr} {T : Int → Bool} {n : Nat} {P : Params} (S : SetV P s.heap a T n) : s.TypeIs (.ref a) "set" := (S).elim fun o qq1 => qq1.elim fun _ qq2 => qq2.elim fun _ qq3 => qq3.elim fun _ qq4 => qq4.elim fun _ qq5 => qq5.elim fun _ qq6 => qq6.elim fun ho qq7 => qq7.elim fun hc _ => ⟨o, ho, hc.1⟩
theorem in_set {a : Addr} {T : Int → Bool} {n : Nat} {k : Int} {key : Value} {Q : Value → Shared → Prop} (hu : A.units + 2000 < cLine) (S : SetV w.params s.heap a T n) (hk : VR s.heap (cd k) key)
    (h : ∀ tk, Q (.bool (T (cl k))) { s with toks := tk }) : wpAny (model prog w) A (compareOp .In key (.ref a)) Q E s := by
  show wpAny _ _ (do return .bool (← contains (.ref a) key)) Q E s
  refine wpAny_bind ?_
  unfold contains
  try with_reducible refine wpAny_holding ?_
  refine wpAny_bind (wpAny_specialOf S.typeIs PySem.F.slot_set_contains.lookup ?_)
  show wpAny _ _ (if (some (Value.builtin "set.__contains__") == some Value.none) = true then _ else _) _ E s
  rw [if_neg (by rw [beq_builtin_none]; exact Bool.false_ne_true)]
  refine wpAny_bind (wpAny_callSpecialUnlessNone?_slot (name := Str.ofString "__contains__") S.typeIs PySem.F.slot_set_contains (wpAny_call_entry PySem.F.slot_set_contains S.typeIs entry_set_contains ?_ (PySem.F.args_set_contains_2 _ _)))
  unfold Builtin.«frozenset.__contains__» Builtin.Frozenset.oneOther
  simp only [List.isEmpty_nil, bind_assoc]
  refine wpAny_bind (wpAny_pure ?_)
  try dsimp only
  refine wpAny_bind (wpAny_pure ?_)
  try dsimp only
  refine wpAny_bind (wpAny_tryCatch ?_)
  refine wpAny_holding ?_
  refine wpAny_bind (pyHash_V _ _ _ s _ (cd_dat k) hk (by have := cd_dep k; show A.units + 1 + dep (cd k) < cLine; exact o140 this hu) fun tk => ?_)
  refine wpAny_bind (setFind_V (s := { s with toks := tk }) (by show A.units + 1 + 9 < cLine; exact o139 hu) hk S fun r hr => ?_)
  refine wpAny_pure ?_
  show wpAny _ _ (ret (Value.bool r.isSome)) _ _ _
  rw [hr]
  exact wpAny_pure ⟨_, rfl, wpAny_truthy_bool (wpAny_pure (h tk))⟩
theorem call_setadd {a : Addr} {T : Int → Bool} {n : Nat} {k : Int} {key : Value} {Q : Value → Shared → Prop} (hu : A.units + 2000 < cLine) (S : SetV w.params s.heap a T n) (hk : VR s.heap (cd k) key)
    (h : ∀ tk h', Heap.SameBut a s.heap h' → SetV w.params h' a (fun c => T c || decide (c = cl k)) (if T (cl k) then n else n + 1) → Q .none { s with heap := h', toks := tk }) : wpAny (model prog w) A (call (.builtin "set.add") [.ref a, key]) Q E s := by
  refine wpAny_call_entry PySem.F.slot_set_add S.typeIs PySem.F.entry_set_add ?_ (PySem.F.args_set_add_2 _ _)
  unfold Builtin.«set.add» Builtin.Frozenset.oneOther
  simp only [List.isEmpty_nil, bind_assoc]
  refine wpAny_bind (wpAny_pure ?_)
  try dsimp only
  refine wpAny_bind (wpAny_pure ?_)
  try dsimp only
  refine wpAny_bind ?_
  refine wpAny_holding ?_
  refine wpAny_bind (pyHash_V _ _ _ s _ (cd_dat k) hk (by have := cd_dep k; show A.units + 1 + dep (cd k) < cLine; exact o140 this hu) fun tk => ?_)
  refine setAddHashed_V (s := { s with toks := tk }) (by show A.units + 1 + 9 < cLine; exact o139 hu) hk S fun h' hsb hS' b => ?_
  show wpAny _ _ (ret Value.none) _ _ _
  exact wpAny_pure ⟨_, rfl, h tk h' hsb hS'⟩
end
section
variable {g : G} {F : Fm} {m : Loc} {H : AH} {s : Shared} {X : Value → List V → Loc → AH → Prop} {Q : V → Loc → AH → Prop}
theorem e_dict0 {pos : Pos} (h : ∀ d, H d = none → Q (.ref d) m (put H d (.dict [] 0))) : WE g F (eval (.Dict [] [] pos) F.env) m H Q X := fun s S => by
  refine wpAny_Dict_empty ?_
  have n : s.heap.get? s.heap.objs.size = none := Heap.get?_none_of_le (Nat.le_refl _)
  obtain ⟨S', K'⟩ := S.new (t := s.toks) (h' := s.heap.push { cls := .type "dict", data := .dict #[] }) (o' := .dict [] 0) (fun _ _ e => Heap.get?_push_of_some _ e) n
    ⟨_, #[], Heap.get?_push_size _ rfl, ⟨rfl, rfl, rfl⟩, rfl, rfl, List.nodup_nil⟩
  exact ⟨.ref _, m, _, .ref' _, S', K', h _ (S.untracked n)⟩
theorem c_dget {d : Addr} {es : List (Int × V)} {ep : Nat} {k : Int} (hd : H d = some (.dict es ep)) (h : Q ((dget es k).getD .none) m H) : WC g F (.builtin "dict.get") [.ref d, cd k] m H Q X := wc2 fun s v u S r r' => by
  rw [VR.ref_iff] at r; subst r
  exact call_dget (room9 S) (S.notMods hd) (S.dictAt hd) r' fun tk v rv => OkP.now S rfl rfl rfl rv h
theorem o_ditem {d : Addr} {es : List (Int × V)} {ep : Nat} {k : Int} {x : V} (hd : H d = some (.dict es ep)) (hx : dget es k = some x) (h : Q x m H) : W2 g F VR (.ref d) (cd k) getItem m H Q X := fun s v u S r r' => by
  rw [VR.ref_iff] at r; subst r
  exact get_ditem (room9 S) (S.dictAt hd) r' hx fun tk v rv => OkP.now S rfl rfl rfl rv h
theorem gi_dict {d : Addr} {es : List (Int × V)} {ep : Nat} {i : V} (hd : H d = some (.dict es ep)) (h : W2 g F VR (.ref d) i getItem m H Q X) : GI g F (.ref d) i m H Q X :=
  ⟨"dict", _, PySem.F.slot_dict_getitem.lookup, fun s v S r => by rw [VR.ref_iff] at r; subst r; exact (S.dictAt hd).typ, h⟩
theorem o_ind {d : Addr} {es : List (Int × V)} {ep : Nat} {k : Int} (hd : H d = some (.dict es ep)) (h : Q (.bool (dget es k).isSome) m H) : W2 g F VR (cd k) (.ref d) (compareOp .In) m H Q X := fun s v u S r' r => by
  rw [VR.ref_iff] at r; subst r
  exact in_dict (room9 S) (S.notMods hd) (S.dictAt hd) r' fun tk => OkP.now S rfl rfl rfl (.bool' _) h
theorem St.dictPut {d : Addr} {es es' : List (Int × V)} {ep ep' : Nat} {h' : Heap} {t : Nat} (S : St g F m H s) (hd : H d = some (.dict es ep)) (hs : Heap.SameBut d s.heap h') (D' : DictV g.w.params h' d es' ep') :
    St g F m (put H d (.dict es' ep')) { s with heap := h', toks := t } ∧ Keep F s.heap H h' (put H d (.dict es' ep')) := by
  obtain ⟨o, ds, e, hc, hdt, r0⟩ := id D'
  have C : Chg (· = d) s.heap h' := .sameBut hs e fun _ _ _ _ _ => ⟨_, _, hdt⟩
  exact S.set C hd D'
theorem o_dset {d : Addr} {es : List (Int × V)} {ep : Nat} {k : Int} {x : V} {Q : Loc → AH → Prop} (hd : H d = some (.dict es ep)) (hz : es.length ≤ 16000000) (h : ∀ ep', Q m (put H d (.dict (dput es k x) ep'))) :
    W3 g F EqR (.ref d) (cd k) x (fun ov iv v => setItem ov iv v) m H (fun (_ : Unit) m H => Q m H) X := fun s v u w S r r' rx => by
  rw [VR.ref_iff] at r; subst r
  refine set_ditem (room9 S) (S.dictAt hd) r' rx (by rw [sizeLine_eq]; exact o100 hz) fun tk h' ep' D' hs => ?_
  obtain ⟨S', K'⟩ := S.dictPut (t := tk) hd hs D'
  exact ⟨(), m, _, rfl, S', K', h ep'⟩
theorem o_ddel {d : Addr} {es : List (Int × V)} {ep : Nat} {k : Int} {x : V} {Q : Loc → AH → Prop} (hd : H d = some (.dict es ep)) (hz : es.length ≤ 16000000) (hx : dget es k = some x) (h : ∀ ep', Q m (put H d (.dict (ddel es k) ep'))) :
    W2 g F EqR (.ref d) (cd k) (fun ov iv => delItem ov iv) m H (fun (_ : Unit) m H => Q m H) X := fun s v u S r r' => by
  rw [VR.ref_iff] at r; subst r
  have hT := (S.dictAt hd).typ
  refine wpAny_delItem_slot hT (by decide) PySem.F.slot_dict_delitem (wpAny_call_entry PySem.F.slot_dict_delitem hT PySem.F.entry_dict_delitem ?_ (PySem.F.args_dict_delitem_2 _ _))
  refine wpAny_bind ?_
  refine wpAny_bind (wpAny_notOrdered_dict hT ?_)
  show wpAny _ _ (pure (Value.ref d, u)) _ _ s
  refine wpAny_pure ?_
  show wpAny _ _ (Builtin.Dict.takeOut d u >>= _) _ _ s
  refine wpAny_bind (takeOut_V (by have := room9 S; show F.A.units + 1 + 9 < cLine; exact o139 this) (S.dictAt hd) r' (by rw [sizeLine_eq]; exact o100 hz) hx fun en tk h' ep' D' hs => ?_)
  obtain ⟨S', K'⟩ := S.dictPut (t := tk) hd hs D'
  exact wpAny_bind (wpAny_letGo (wpAny_pure ⟨_, rfl, (), m, _, rfl, S', K', h ep'⟩))
theorem SetV.fresh {P : Params} {h : Heap} {a : Addr} (led : Bool) (e : h.get? a = some { cls := .type "set", dict := none, data := .set #[] 0 (.fresh 0 0 led) }) : SetV P h a (fun _ => false) 0 :=
  ⟨_, #[], 0, _, [], [], e, ⟨rfl, rfl, rfl⟩, rfl, Tb.TI.fresh 0 0 led, (by show 5 * 0 < 3 * 7; decide), rfl, List.nodup_nil, rfl, fun c => by simp⟩
theorem c_set0 (h : ∀ a, H a = none → Q (.ref a) m (put H a (.set (fun _ => false) 0))) : WC g F (.type "set") [] m H Q X := wc0 fun s S => by
  refine call_set_0 fun led => ?_
  have n : s.heap.get? s.heap.objs.size = none := Heap.get?_none_of_le (Nat.le_refl _)
  obtain ⟨S', K'⟩ := S.new (t := s.toks) (h' := s.heap.push { cls := .type "set", dict := none, data := .set #[] 0 (.fresh 0 0 led) }) (o' := .set (fun _ => false) 0) (fun _ _ e => Heap.get?_push_of_some _ e) n (SetV.fresh led (Heap.get?_push_size _ rfl))
  exact ⟨.ref _, m, _, .ref' _, S', K', h _ (S.untracked n)⟩
theorem o_inset {a : Addr} {T : Int → Bool} {n : Nat} {k : Int} (ha : H a = some (.set T n)) (h : Q (.bool (T (cl k))) m H) : W2 g F VR (cd k) (.ref a) (compareOp .In) m H Q X := fun s v u S r' r => by
  rw [VR.ref_iff] at r; subst r
  exact in_set (room9 S) (S.obj a _ ha).2 r' fun tk => OkP.now S rfl rfl rfl (.bool' _) h
theorem c_setadd {a : Addr} {T : Int → Bool} {n : Nat} {k : Int} (ha : H a = some (.set T n)) (h : Q .none m (put H a (.set (fun c => T c || decide (c = cl k)) (if T (cl k) then n else n + 1)))) : WC g F (.builtin "set.add") [.ref a, cd k] m H Q X := wc2 fun s v u S r r' => by
  rw [VR.ref_iff] at r; subst r
  refine call_setadd (room9 S) (S.obj a _ ha).2 r' fun tk h' hsb hS' => ?_
  obtain ⟨o, es, ep, t, ps, us, e, _, hd, _⟩ := (S.obj a _ ha).2
  obtain ⟨o', _, _, _, _, _, e', _, hd', _⟩ := id hS'
  have C : Chg (· = a) s.heap h' := .sameBut hsb e' fun o₀ _ _ e₀ q => by rw [e] at e₀; cases e₀; rw [hd] at q; cases q
  obtain ⟨S', K'⟩ := S.set (t := tk) C ha (o' := .set (fun c => T c || decide (c = cl k)) (if T (cl k) then n else n + 1)) hS'
  exact ⟨.none, m, _, .none', S', K', h⟩
end
section
variable {g : G} {F : Fm} {m : Loc} {H : AH} {s : Shared} {X : Value → List V → Loc → AH → Prop} {Q : V → Loc → AH → Prop}
noncomputable def cut (xs : List V) (lo hi st : Option Int) : List V := (sliceRange (sliceBounds lo hi st xs.length).1 (sliceBounds lo hi st xs.length).2.1 (sliceBounds lo hi st xs.length).2.2).filterMap (xs[·]?)
theorem cut_are {h : Heap} {xs : List V} {vs : List Value} (r : VRs h xs vs) (is : List Nat) : VRs h (is.filterMap (xs[·]?)) (is.filterMap (vs[·]?)) := by
  induction is with
  | nil => exact .nil'
  | cons i is ih =>
    rw [List.filterMap_cons, List.filterMap_cons]
    cases q : xs[i]? with
    | none =>
      have : vs[i]? = none := by rw [List.getElem?_eq_none_iff] at q ⊢; rw [r.length]; exact q
      rw [this]; exact ih
    | some x => obtain ⟨v, e, rv⟩ := r.getElem? q; rw [e]; exact .cons rv ih
inductive PartV : V → Option Int → Prop
  | none : PartV .none none
  | int (i : Int) : PartV (.int i) (some i)
theorem PartV.is {h : Heap} {x : V} {v : Value} {o : Option Int} (p : PartV x o) (r : VR h x v) : IsPart v o := by
  cases p with
  | none => rw [VR.none_iff] at r; subst r; exact .none
  | int i => rw [VR.int_iff] at r; obtain ⟨t, rfl⟩ := r; exact .int i t
theorem p_none (h : Q .none m H) : WE g F (evalPart none F.env) m H Q X := fun s S => by rw [evalPart_none]; exact wpAny_pure (OkP.now S rfl rfl rfl .none' h)
theorem p_some {e : Expr} (h : WE g F (eval e F.env) m H Q X) : WE g F (evalPart (some e) F.env) m H Q X := h
theorem e_slice {o : Expr} {lower upper step : Option Expr} {p pos : Pos}
    (h : WE g F (eval o F.env) m H (fun a m H => WE g F (evalPart lower F.env) m H (fun l m H => WE g F (evalPart upper F.env) m H (fun u m H => WE g F (evalPart step F.env) m H (fun st m H =>
      ∃ b xs lo hi s', a = .ref b ∧ LA g H b xs ∧ xs.length ≤ 16000000 ∧ PartV l lo ∧ PartV u hi ∧ PartV st s' ∧ s' ≠ some 0 ∧ ∀ c, H c = none → Q (.ref c) m (put H c (.list (cut xs lo hi s')))) X) X) X) X) :
    WE g F (eval (.Subscript o (.Slice lower upper step p) pos) F.env) m H Q X := fun s S => by
  rw [eval_Subscript]
  refine wpAny_bind (h.run S (fun ov s₁ a m₁ H₁ r₁ S₁ k₁ h₁ => wpAny_bind (wpAny_holding (wpAny_Slice ?_))) fun _ _ x => x)
  refine h₁.run S₁ (fun lv s₂ l m₂ H₂ r₂ S₂ k₂ h₂ => ?_) fun _ _ x => x.after k₁
  have K₂ := k₁.trans k₂
  refine h₂.run S₂ (fun uv s₃ u m₃ H₃ r₃ S₃ k₃ h₃ => ?_) fun _ _ x => x.after K₂
  have K₃ := K₂.trans k₃
  refine h₃.run S₃ (fun sv s₄ st m₄ H₄ r₄ S₄ k₄ qq1 => qq1.elim fun b qq2 => qq2.elim fun xs qq3 => qq3.elim fun lo qq4 => qq4.elim fun hi qq5 => qq5.elim fun s' qq6 => qq6.elim fun e qq7 => qq7.elim fun hb qq8 => qq8.elim fun hz qq9 => qq9.elim fun pl qq10 => qq10.elim fun pu qq11 => qq11.elim fun ps qq12 => qq12.elim fun hn h₄ => ?_) fun _ _ x => x.after K₃
  have K₄ := K₃.trans k₄
  subst e
  have r₁' := ((r₁.keep S₁ k₂).keep S₂ k₃).keep S₃ k₄
  rw [VR.ref_iff] at r₁'; subst r₁'
  obtain ⟨vs, ep, e, rs⟩ := hb.at S₄
  have kp : ∀ b o, s₄.heap.get? b = some o → (s₄.heap.push { cls := .type "slice", data := .fields #[lv, uv, sv] }).get? b = some o := fun _ _ e => Heap.get?_push_of_some _ e
  obtain ⟨S₅, k₅⟩ := S₄.ext (t := s₄.toks) kp
  have hl : (s₄.heap.push { cls := .type "slice", data := .fields #[lv, uv, sv] }).IsList b vs.toArray := ⟨_, kp _ _ e, rfl, ep, rfl⟩
  have hT : Shared.TypeIs { s₄ with heap := s₄.heap.push { cls := .type "slice", data := .fields #[lv, uv, sv] } } (.ref b) "list" := hl.typeIs
  refine wpAny_bind (wpAny_standAt (wpAny_bind ?_))
  rw [getitemInPython_of_ne hT.not_modules]
  refine wpAny_bind (wpAny_specialOf hT list_getitem_lookup (wpAny_pure (wpAny_bind ?_)))
  have K₅ := K₄.trans k₅
  have fin : wpAny (model g.prog g.w) F.A (getItem (.ref b) (.ref s₄.heap.objs.size)) (fun r s₃ => wpAny (model g.prog g.w) F.A (letTemporaryGo o (.ref b) r >>= fun _ => pure r) (OkP g F VR Q s.heap H) (ErP g F X s.heap H) s₃) (ErP g F X s.heap H)
      { s₄ with heap := s₄.heap.push { cls := .type "slice", data := .fields #[lv, uv, sv] } } := by
    refine wpAny_getItem_list_slice hl (Heap.IsSliceOf.new ..) (pl.is r₂) (pu.is r₃) (ps.is r₄) hn (wpAny_bind (wpAny_letTemporaryGo (wpAny_pure ?_))) (by rw [List.size_toArray, rs.length, sizeLine_eq]; exact o100 hz)
    have rc : VRs s₄.heap (cut xs lo hi s') (slicePick vs.toArray lo hi s').toList := by
      have := cut_are rs (sliceRange (sliceBounds lo hi s' xs.length).1 (sliceBounds lo hi s' xs.length).2.1 (sliceBounds lo hi s' xs.length).2.2)
      unfold slicePick cut
      simp only [List.size_toArray, rs.length, List.getElem?_toArray]
      exact this
    refine OkP.after K₅ (new_list S₅ (ys := cut xs lo hi s') (vs := (slicePick vs.toArray lo hi s').toList) (ep := 0) (fun _ _ e => Heap.get?_push_of_some _ e) (Heap.get?_none_of_le (Nat.le_refl _)) (Heap.get?_push_size _ rfl) ?_ h₄)
    exact rc.mono fun _ _ _ q => Heap.get?_push_of_some _ (kp _ _ q)
  cases step with
  | none => exact wpAny_operating fin
  | some st => exact wpAny_operating fin
theorem o_concat {a b : Addr} {xs ys : List V} (ha : LA g H a xs) (hb : LA g H b ys) (hz : xs.length + ys.length ≤ 16000000) (h : ∀ c, H c = none → Q (.ref c) m (put H c (.list (xs ++ ys)))) : W2 g F VR (.ref a) (.ref b) (binaryOp .Add) m H Q X := fun s v u S r r' => by
  rw [VR.ref_iff] at r r'; subst r r'
  obtain ⟨vs, ep, e, rs⟩ := ha.at S
  obtain ⟨ws, ep', e', rs'⟩ := hb.at S
  have kp : ∀ b o, s.heap.get? b = some o → (s.heap.push (lstObj (vs ++ ws) 0)).get? b = some o := fun _ _ e => Heap.get?_push_of_some _ e
  refine PySem.P.add_list (items := vs.toArray) (items2 := ws.toArray) e e' ?_ (by simp [rs.length, rs'.length, sizeLine_eq]; exact o141 hz)
  rw [List.append_toArray]
  exact new_list S kp (Heap.get?_none_of_le (Nat.le_refl _)) (Heap.get?_push_size _ rfl) ((rs.append rs').mono fun _ _ _ q => kp _ _ q) h
end
end Mine
end
section
open PySem PySem.W PySem.Calls PyProof.Rows PySem.SeqAt
set_option linter.unusedSectionVars false
set_option linter.unusedVariables false
set_option maxRecDepth 100000
namespace Mine
variable [ζ : Dead]
section
variable {g : G} {F : Fm} {m : Loc} {H : AH} {s : Shared} {X : Value → List V → Loc → AH → Prop} {Q : Fl → Loc → AH → Prop}
theorem flies {h₀ : Heap} {H₀ : AH} {h' : Heap} {e : Addr} {cls : Value} {as : List V} {vs : List Value} {t : Nat} (S : St g F m H s) (K : Keep F h₀ H₀ s.heap H) (x : Heap.MadeExcOf s.heap h' e cls vs) (hc : immC cls = false) (r : VRs s.heap as vs) (q : X cls as m H) :
    ErP g F X h₀ H₀ (.ref e) { s with heap := h', toks := t } := by
  obtain ⟨S', K'⟩ := S.ext (t := t) x.keeps
  obtain ⟨T, h1, h2, h3⟩ := x.there
  refine ⟨cls, as, m, H, ?_, S', K.trans K', q⟩
  have n0 : h₀.get? e = none := by
    cases z : h₀.get? e with
    | none => rfl
    | some o => obtain ⟨o', w⟩ := K.alive e o z; rw [x.new] at w; cases w
  exact ⟨e, _, _, .ref T, rfl, n0, S.untracked x.new, h1, rfl, hc, rfl, rfl, .tup' (S.ok h2) h3 (r.mono fun _ _ _ q => x.keeps _ _ q), .inl rfl⟩
theorem s_raise {cls newId initId : String} (FC : ExcCallFacts cls newId initId) (FR : ExcRaiseFacts cls) {x : Str} {np cpos pos : Pos} {args : List Expr} (hh : F.A.handled = none) (hc : immC (.type cls) = false)
    (hk : F.env.kindOf x = some .globalImplicit) (hv : nsIn g.K mainGlobals x = some none) (hb : g.mb x = some (.type cls))
    (h : WL g F (spliced (backTo cpos (starEach args F.env))) m H (fun as m H => as.length ≤ 1000 ∧ X (.type cls) as m H) X)
    (hp : (backTo cpos (starEach args F.env)).any (·.1) = false := by rfl) (hd : (x == ("__debug__" : Str)) = false := by decide) : WS g F (exec (.Raise (some (.Call (.Name x np) args [] cpos)) none pos) F.env) m H Q X := fun s S => by
  refine wpAny_Raise_call FC FR hh hp ((e_blt (X := X) (pos := np) (Q := fun a m' H' => a = .cst (.type cls) ∧ m' = m ∧ H' = H) hk hv hb ⟨rfl, rfl, rfl⟩ hd).run S (fun f s₁ a m₁ H₁ r₁ S₁ k₁ qq1 => qq1.elim fun e1 qq2 => qq2.elim fun e2 e3 => ?_) fun _ _ x => x)
  subst e1 e2 e3
  rw [VR.cst_iff] at r₁
  refine ⟨r₁, evalArgs_all hp (h.run S₁ (fun vs s₂ as m₂ H₂ r₂ S₂ k₂ qq1 => qq1.elim fun hl q => ⟨rfl, ?_, fun h' e hm => ?_⟩) fun _ _ x => x.after k₁)⟩
  · show vs.length ≤ _; rw [r₂.length, sizeLine_eq]; exact o329 qq1
  · exact flies S₂ (k₁.trans k₂) hm.of hc r₂ q
theorem s_raise_own {x : Str} {C : Addr} {B newId initId : String} {bm : List Value} (O : OwnCls x C bm newId g.mg g.B) (FB : ExcBaseFacts B newId initId bm) {np cpos pos : Pos} {args : List Expr} (hh : F.A.handled = none)
    (hk : F.env.kindOf x = some .globalImplicit)
    (h : WL g F (spliced (backTo cpos (starEach args F.env))) m H (fun as m H => as.length ≤ 1000 ∧ X (.ref C) as m H) X)
    (hp : (backTo cpos (starEach args F.env)).any (·.1) = false := by rfl) (hd : (x == ("__debug__" : Str)) = false := by decide) : WS g F (exec (.Raise (some (.Call (.Name x np) args [] cpos)) none pos) F.env) m H Q X := fun s S => by
  obtain ⟨tl, N, nm, q, bs, hdct, sn, sub, ab, col, dd, k0, k1, k2, k3, k5, mN, hC, hN, hni, T⟩ := O.obj
  refine wpAny_Raise_call_subT (C := C) (nm := nm) (q := q) (N := N) (bs := bs) (bm := tl) (hdct := hdct) (sn := sn) (sub := sub) (ab := ab) (col := col) (dd := dd) (k0 := k0) (k1 := k1) (k2 := k2) (k3 := k3) (k5 := k5) FB (mN := mN) (T.hasType FB.hasBase) hh hp hni ?_
  refine wpAny_Name ?_ hd
  rw [loadName_read S.loc.kind hk]
  unfold loadGlobal
  rw [S.envg.1]
  refine wpAny_bind (wpAny_nsGet (g.glob.keeps S.base) ?_)
  rw [O.bound]
  refine wpAny_pure ⟨rfl, evalArgs_all hp (h.run S (fun vs s₂ as m₂ H₂ r₂ S₂ k₂ qq1 => qq1.elim fun hl q => ⟨rfl, ?_, S₂.base _ _ hC, hN.keeps S₂.base, T.keeps S₂.base, fun h' e hm => ?_⟩) fun _ _ x => x)⟩
  · show vs.length ≤ _; rw [r₂.length, sizeLine_eq]; exact o329 qq1
  · exact flies S₂ k₂ hm rfl r₂ q
structure Catches (g : G) (spec c : Value) (b : Bool) : Prop where
  tup : Looks (model g.prog g.w) g.B (isInstance spec (.type "tuple")) false
  typ : Looks (model g.prog g.w) g.B (isType spec) true
  exc : subIn g.K spec (.type "BaseException") = some true
  sub : subIn g.K c spec = some b
theorem matches_look {h : Heap} {a : Addr} {o : Obj} {spec : Value} {b : Bool} (B : g.B.StaysIn h) (C : Catches g spec o.cls b) (ha : h.get? a = some o) : Looks (model g.prog g.w) h (excMatches (.ref a) spec) b := by
  have X : g.K.In h := g.kin.keeps B
  have L1 : Looks (model g.prog g.w) h (isInstance spec (.type "tuple")) false := C.tup.keeps B
  have L2 : Looks (model g.prog g.w) h (isType spec) true := C.typ.keeps B
  have L3 : Looks (model g.prog g.w) h (isSubtype spec (.type "BaseException")) true := looks_subIn X C.exc
  have L4 : Looks (model g.prog g.w) h (typeOf (.ref a)) o.cls := (Looks.ld ha).andThen .now
  have L5 : Looks (model g.prog g.w) h (isSubtype o.cls spec) b := looks_subIn X C.sub
  have L6 : Looks (model g.prog g.w) h (isExcClass spec) true := by
    unfold isExcClass
    exact L2.andThen L3
  intro A Q E s k q
  unfold excMatches
  refine wpAny_bind (L1 A _ E s k ?_)
  refine wpAny_bind (wpAny_pure ?_)
  simp only [List.forIn_cons, List.forIn_nil, bind_assoc, pure_bind]
  refine wpAny_bind (L6 A _ E s k ?_)
  simp only [Bool.not_true, Bool.false_eq_true, if_false, pure_bind, bind_assoc]
  refine wpAny_bind (L4 A _ E s k ?_)
  refine wpAny_bind (L5 A _ E s k ?_)
  cases b
  · simp only [Bool.false_eq_true, if_false, pure_bind]; exact wpAny_pure q
  · simp only [if_true, pure_bind]; exact wpAny_pure q
end
end Mine
end
section
open PySem PySem.W PySem.Calls PyProof.Rows PySem.SeqAt
set_option linter.unusedSectionVars false
set_option linter.unusedVariables false
set_option maxRecDepth 100000
namespace Mine
variable [ζ : Dead]
section
variable {g : G} {F : Fm} {m : Loc} {H : AH} {s : Shared} {X : Value → List V → Loc → AH → Prop} {Q : Fl → Loc → AH → Prop}
noncomputable def Fm.mark (F : Fm) (e : Value) : Fm := { F with A := F.A.mark (some e) }
theorem St.mark {e : Value} (S : St g F m H s) : St g (F.mark e) m H s := ⟨S.base, S.obj, ⟨S.loc.kind, S.loc.val, S.loc.cell, S.loc.apart⟩, S.locm, S.mine, S.frs, S.frd, S.frame, S.Afr, S.gens, S.os, S.room, S.envg, S.dead⟩
theorem St.unmark {e : Value} (S : St g (F.mark e) m H s) : St g F m H s := ⟨S.base, S.obj, ⟨S.loc.kind, S.loc.val, S.loc.cell, S.loc.apart⟩, S.locm, S.mine, S.frs, S.frd, S.frame, S.Afr, S.gens, S.os, S.room, S.envg, S.dead⟩
theorem Keep.unmark {e : Value} {h h' : Heap} {H H' : AH} (K : Keep (F.mark e) h H h' H') : Keep F h H h' H' := ⟨K.alive, K.dct, K.same⟩
theorem Keep.mark {e : Value} {h h' : Heap} {H H' : AH} (K : Keep F h H h' H') : Keep (F.mark e) h H h' H' := ⟨K.alive, K.dct, K.same⟩
noncomputable def WH (g : G) (F : Fm) (hs : List ExceptHandler) (c : Value) (as : List V) (m : Loc) (H : AH) (Q : Fl → Loc → AH → Prop) (X : Value → List V → Loc → AH → Prop) : Prop :=
  ∀ h₀ H₀ s e, St g F m H s → Keep F h₀ H₀ s.heap H → g.B.StaysIn h₀ → FlyT h₀ e c as s.heap H → wpAny (model g.prog g.w) F.A (handleBy e F.env hs) (OkP g F FR Q h₀ H₀) (ErP g F X h₀ H₀) s
noncomputable abbrev kExc (g : G) (F : Fm) (hs : List ExceptHandler) (Q : Fl → Loc → AH → Prop) (X : Value → List V → Loc → AH → Prop) : Value → List V → Loc → AH → Prop := fun c as m H => WH g F hs c as m H Q X
theorem s_try {body orelse : List Stmt} {h₀ : ExceptHandler} {hs : List ExceptHandler} {pos : Pos} (hst : F.stack ≠ [])
    (h : WS g F (execs body F.env) m H (kTail g F orelse Q X) (kExc g F (h₀ :: hs) Q X)) :
    WS g F (exec (.Try body (h₀ :: hs) orelse [] pos) F.env) m H Q X := fun s S => by
  refine wpAny_Try_except (wpAny_mono (h s S) (fun f s₁ yy => yy.elim fun f' m₁ H₁ r₁ S₁ k₁ h₁ => ?_) fun e s₁ yy => yy.elim fun c as m₁ H₁ f₁ S₁ k₁ h₁ => ?_)
  · cases f' with
    | next => cases r₁; exact h₁.run S₁ (fun _ _ b m H r S' k q => ⟨b, m, H, r, S', k₁.trans k, q⟩) (fun _ _ x => x.after k₁)
    | brk => cases r₁; exact ⟨.brk, m₁, H₁, rfl, S₁, k₁, h₁⟩
    | cont => cases r₁; exact ⟨.cont, m₁, H₁, rfl, S₁, k₁, h₁⟩
    | ret x => obtain ⟨v, rfl, rv⟩ := r₁; exact ⟨.ret x, m₁, H₁, ⟨v, rfl, rv⟩, S₁, k₁, h₁⟩
  · refine note S₁ k₁ S.base f₁ (S₁.frameL hst) fun s₂ S₂ k₂ f₂ => flight S₂ k₂ S.base f₂ fun s₃ S₃ k₃ f₃ => ?_
    exact h₁ s.heap H s₃ e S₃ k₃ S.base f₃
noncomputable def Spec (g : G) (F : Fm) (t : Expr) (m : Loc) (H : AH) (spec : Value) : Prop := ∀ e, WE g (F.mark e) (eval t F.env) m H (fun a m' H' => a = .cst spec ∧ m' = m ∧ H' = H) (fun _ _ _ _ => False)
theorem spec_glob {x : Str} {pos : Pos} {v : Value} (hk : F.env.kindOf x = some .globalImplicit) (hv : nsIn g.K mainGlobals x = some (some v)) (hd : (x == ("__debug__" : Str)) = false := by decide) : Spec g F (.Name x pos) m H v := fun e => e_glob (F := F.mark e) hk hv (fun _ => .cst' v) ⟨rfl, rfl, rfl⟩ hd
theorem spec_blt {x : Str} {pos : Pos} {v : Value} (hk : F.env.kindOf x = some .globalImplicit) (hv : nsIn g.K mainGlobals x = some none) (hb : g.mb x = some v) (hd : (x == ("__debug__" : Str)) = false := by decide) : Spec g F (.Name x pos) m H v := fun e => e_blt (F := F.mark e) hk hv hb ⟨rfl, rfl, rfl⟩ hd
theorem FlyT.keep {h₀ : Heap} {H' : AH} {e c : Value} {as : List V} {s' : Shared} (S : St g F m H s) (K : Keep F s.heap H s'.heap H') (f : FlyT h₀ e c as s.heap H) : FlyT h₀ e c as s'.heap H' := by
  obtain ⟨a, o, vs, v, T, oT, ts, x, rfl, h2, h3, h4, h5, h6, h7, h8, h9, t1, t2, t3, t4, t5, t6, t7, t8⟩ := f
  have off : ∀ b ob ws, s.heap.get? b = some ob → ob.data = .fields ws → H b = none → H' b = none ∧ s'.heap.get? b = some ob := fun b ob ws e d n => by
    have nm : b ∉ F.mine := fun q => by
      obtain ⟨_, _, o', e', w⟩ := S.mine b q
      rw [e] at e'; cases e'
      rcases w with ⟨_, _, w⟩ | ⟨_, w⟩ <;> rw [d] at w <;> cases w
    have nf : b ∉ F.fr := fun q => by
      obtain ⟨_, o', es, ep, e', w⟩ := S.frd b q
      rw [e] at e'; cases e'; rw [d] at w; cases w
    obtain ⟨n', z⟩ := K.same b ob e n nm
    rcases z with z | ⟨z, _⟩
    · exact ⟨n', z⟩
    · exact absurd z nf
  obtain ⟨q1, q2⟩ := off a o vs h4 h7 h3
  obtain ⟨q3, q4⟩ := off T oT ts t5 t7 t4
  exact ⟨a, o, vs, v, T, oT, ts, x, rfl, h2, q1, q2, h5, h6, h7, h8, h9.mono (K.mono S).tup, t1, t2, t3, q3, q4, t6, t7, t8⟩
theorem h_test {c spec : Value} {as : List V} {b : Bool} {t : Expr} {name : Option Str} {body : List Stmt} {pos : Pos} {rest : List ExceptHandler} {h₀ : Heap} {H₀ : AH} {e : Value} (hsp : Spec g F t m H spec) (hc : Catches g spec c b) (S : St g F m H s) (K : Keep F h₀ H₀ s.heap H) (B0 : g.B.StaysIn h₀) (f : FlyT h₀ e c as s.heap H)
    (h : ∀ s₁, St g F m H s₁ → Keep F h₀ H₀ s₁.heap H → FlyT h₀ e c as s₁.heap H →
      if b then codeAny (model g.prog g.w) (F.mark e).A (.handlers e [.ExceptHandler none name body pos] F.env) (fun r s₂ => match r with
          | .ok f => (match name with
            | none => OkP g F FR Q h₀ H₀ f s₂
            | some n => wpAny (model g.prog g.w) F.A (do bindName F.env n .none; unbindBehindTheSuite F.env n pos) (fun _ s₃ => OkP g F FR Q h₀ H₀ f s₃) (ErP g F X h₀ H₀) s₂)
          | .error x => cameBackBy (model g.prog g.w) F.A F.env (ErP g F X h₀ H₀) x s₂) s₁
      else wpAny (model g.prog g.w) F.A (handleBy e F.env rest) (OkP g F FR Q h₀ H₀) (ErP g F X h₀ H₀) s₁) :
    wpAny (model g.prog g.w) F.A (handleBy e F.env (.ExceptHandler (some t) name body pos :: rest)) (OkP g F FR Q h₀ H₀) (ErP g F X h₀ H₀) s := by
  have hne : e ≠ byPass := by obtain ⟨a, o, vs, v, T, oT, ts, x, rfl, _⟩ := f; intro q; cases q
  refine wpAny_handleBy_cons (codeAny_handlers_test ?_) hne
  refine (hsp e).run S.mark (fun cv s₁ a m₁ H₁ r₁ S₁ k₁ qq1 => qq1.elim fun e1 qq2 => qq2.elim fun e2 e3 => ?_) fun _ _ yy => yy.no
  subst e1 e2 e3
  rw [VR.cst_iff] at r₁
  subst r₁
  have S₁' := S₁.unmark
  have K₁ := K.trans k₁.unmark
  have f₁ := f.keep S k₁.unmark
  obtain ⟨ad, o, vs, v, T, oT, ts, x, rfl, h2, h3, h4, h5, h6⟩ := id f₁
  refine (matches_look S₁'.base (by rw [h5]; exact hc) h4).here ?_
  have z := h s₁ S₁' K₁ f₁
  cases b
  · exact z
  · exact z
theorem h_take {c spec : Value} {as : List V} {t : Expr} {b₀ : Stmt} {body : List Stmt} {pos : Pos} {rest : List ExceptHandler} (hsp : Spec g F t m H spec) (hc : Catches g spec c true)
    (h : ∀ e, WS g (F.mark e) (execs (b₀ :: body) F.env) m H Q (fun _ _ _ _ => False)) : WH g F (.ExceptHandler (some t) none (b₀ :: body) pos :: rest) c as m H Q X := fun h₀ H₀ s e S K B0 f => by
  refine h_test hsp hc S K B0 f fun s₁ S₁ K₁ f₁ => codeAny_handlers_suite ?_
  refine flight (F := F.mark e) S₁.mark K₁.mark B0 f₁ fun s₂ S₂ K₂ f₂ => ?_
  refine (h e).run S₂ (fun fl s₃ fl' m₃ H₃ r₃ S₃ k₃ q => ⟨fl', m₃, H₃, r₃, S₃.unmark, (K₂.trans k₃).unmark, q⟩) fun _ _ yy => yy.no
noncomputable def rem (H : AH) (a : Addr) : AH := fun b => if b = a then none else H b
theorem rem_put {H : AH} {a : Addr} {o : O} (h : H a = none) : rem (put H a o) a = H := by
  funext b; unfold rem put
  by_cases q : b = a
  · rw [if_pos q, q, h]
  · rw [if_neg q, if_neg q]
theorem rem_ne {H : AH} {a b : Addr} (h : b ≠ a) : rem H a b = H b := if_neg h
theorem St.rem {a : Addr} {h₀ : Heap} {H₀ : AH} (S : St g F m H s) (K : Keep F h₀ H₀ s.heap H) (n : h₀.get? a = none) : St g F m (rem H a) s ∧ Keep F h₀ H₀ s.heap (rem H a) := by
  have up : ∀ b o, Mine.rem H a b = some o → H b = some o := fun b o e => by
    unfold Mine.rem at e; split at e
    · cases e
    · exact e
  have dn : ∀ b, H b = none → Mine.rem H a b = none := fun b e => by
    unfold Mine.rem
    split
    · rfl
    · exact e
  refine ⟨⟨S.base, fun b o e => S.obj b o (up b o e), ⟨S.loc.kind, S.loc.val, fun x c hc => ⟨dn c (S.loc.cell x c hc).1, (S.loc.cell x c hc).2⟩, S.loc.apart⟩, S.locm, fun b hb => ⟨dn b (S.mine b hb).1, (S.mine b hb).2⟩, S.frs, fun b hb => ⟨dn b (S.frd b hb).1, (S.frd b hb).2⟩, S.frame, S.Afr, S.gens, S.os, S.room, S.envg, S.dead⟩,
    K.alive, K.dct, fun b o e nb hb => ?_⟩
  obtain ⟨q1, q2⟩ := K.same b o e nb hb
  exact ⟨dn b q1, q2⟩
theorem n_unbind {n : Str} {pos : Pos} {a : V} (hx : F.env.kindOf n = some .local) (hm : m n = some a) {h₀ : Heap} {H₀ : AH} (S : St g F m H s) (K : Keep F h₀ H₀ s.heap H) {Q' : Unit → Shared → Prop} {E : Value → Shared → Prop} (h : ∀ s', St g F (delL m n) H s' → Keep F h₀ H₀ s'.heap H → (∀ b o, Imm b o → s.heap.get? b = some o → s'.heap.get? b = some o) → Q' () s') :
    wpAny (model g.prog g.w) F.A (unbindBehindTheSuite F.env n pos) Q' E s := by
  obtain ⟨kd, ⟨mr, hn, hv⟩, cl, ap⟩ := S.loc
  obtain ⟨v, rv, q⟩ := hv n a hm
  have hmr : mr n = some v := by
    rcases q with ⟨_, q⟩ | ⟨q, _⟩
    · exact q
    · rw [hx] at q; rcases q with q | ⟨q, _⟩ <;> cases q
  unfold unbindBehindTheSuite
  refine wpAny_onRaise (wpAny_unbindName_local hx hn hmr (by rw [kd]; rfl) fun h' u hn' hs => ?_)
  obtain ⟨oL, esL, epL, eL, dL, rL⟩ := id hn'
  have C : Chg (· = F.env.locals) s.heap h' := .sameBut hs eL fun _ _ _ _ _ => ⟨_, _, dL⟩
  have cne : ∀ y c, F.env.cells.lookup y = some c → c ≠ F.env.locals := fun y c hy q => by
    obtain ⟨_, v₀, o, e, d⟩ := cl y c hy
    obtain ⟨o₂, es₂, ep₂, e₂, d₂, _⟩ := hn
    rw [q, e₂] at e; cases e; rw [d₂] at d; cases d
  have tup : ∀ a o, Imm a o → s.heap.get? a = some o → h'.get? a = some o := fun a o i e => C.same a _ e fun q => by subst q; exact (S.tupFree i e).2.1 S.locm
  have L' : LocOk F (delL m n) H h' := ⟨kd, ⟨_, hn', fun y b hy => by
      unfold delL at hy
      by_cases q : y = n
      · rw [if_pos q] at hy; cases hy
      · rw [if_neg q] at hy
        obtain ⟨u', ru, z⟩ := hv y b hy
        refine ⟨u', ru.mono tup, ?_⟩
        rcases z with ⟨z1, z2⟩ | ⟨z1, c, z2, z3⟩
        · exact .inl ⟨z1, by rw [if_neg q]; exact z2⟩
        · exact .inr ⟨z1, c, z2, z3.sameBut hs (cne y c z2)⟩⟩,
    fun y c hy => ⟨(cl y c hy).1, ((cl y c hy).2).elim fun u z => ⟨u, z.sameBut hs (cne y c hy)⟩⟩, ap⟩
  obtain ⟨S', k⟩ := S.own (t := s.toks) S.locm C ⟨_, eL, .inl ⟨_, _, dL⟩⟩ (fun _ _ _ _ _ => ⟨_, _, _, eL, dL⟩) L'
  exact h _ S' (K.trans k) tup
theorem h_take_as {c spec : Value} {as : List V} {t : Expr} {n : Str} {b₀ : Stmt} {body : List Stmt} {pos : Pos} {rest : List ExceptHandler} (hx : F.env.kindOf n = some .local) (hsp : Spec g F t m H spec) (hc : Catches g spec c true)
    (h : ∀ e a, H a = none → WS g (F.mark e) (execs (b₀ :: body) F.env) (setL m n (.ref a)) (put H a (.exc c as)) (fun f m' H' => Q f (delL (setL m' n .none) n) (rem H' a)) (fun _ _ _ _ => False)) : WH g F (.ExceptHandler (some t) (some n) (b₀ :: body) pos :: rest) c as m H Q X := fun h₀ H₀ s e S K B0 f => by
  refine h_test hsp hc S K B0 f fun s₁ S₁ K₁ f₁ => codeAny_handlers_suite_as ?_
  refine flight (F := F.mark e) S₁.mark K₁.mark B0 f₁ fun s₂ S₂ K₂ f₂ => ?_
  obtain ⟨a, o, vs, v, T, oT, ts, x, rfl, h2, h3, h4, h5, h6, h7, h8, h9, _⟩ := f₂
  have nm : a ∉ F.mine := fun q => by
    obtain ⟨_, _, o', e', w⟩ := S₂.mine a q
    rw [h4] at e'; cases e'
    rcases w with ⟨_, _, w⟩ | ⟨_, w⟩ <;> rw [h7] at w <;> cases w
  have nf : a ∉ F.fr := fun q => by
    obtain ⟨_, o', es, ep, e', w⟩ := S₂.frd a q
    rw [h4] at e'; cases e'; rw [h7] at w; cases w
  have nc : ∀ y, F.env.cells.lookup y ≠ some a := fun y hy => by
    obtain ⟨_, v', o', e', w⟩ := S₂.loc.cell y a hy
    rw [h4] at e'; cases e'; rw [h7] at w; cases w
  have hB : g.B.get? a = none := Keep.base S₂ K₂ B0 h2
  obtain ⟨S₃, K₃⟩ := S₂.track (o' := .exc c as) K₂ h2 hB h3 nm nf nc ⟨o, vs, v, h4, h5, h6, h7, h8, h9⟩
  refine wpAny_mono (n_store (F := F.mark (.ref a)) (X := fun _ _ _ _ => False) (Q := fun m' H' => m' = setL m n (.ref a) ∧ H' = put H a (.exc c as)) (.inl hx) ⟨rfl, rfl⟩ s₂ (.ref a) S₃ (.ref' a)) (fun _ s₄ yy => yy.elim fun _ m₄ H₄ _ S₄ k₄ qq1 => qq1.elim fun e1 e2 => ?_) fun _ _ yy => yy.no
  subst e1 e2
  refine (h (.ref a) a h3).run S₄ (fun fl s₅ fl' m₅ H₅ r₅ S₅ k₅ q => ?_) fun _ _ yy => yy.no
  have K₅ := ((K₃.trans k₄).trans k₅).unmark
  have S₅' := S₅.unmark
  show wpAny _ _ (do bindName F.env n .none; unbindBehindTheSuite F.env n pos) _ _ _
  refine wpAny_bind (wpAny_bindName (wpAny_mono (n_store (F := F) (X := fun _ _ _ _ => False) (a := .none) (Q := fun m' H' => m' = setL m₅ n .none ∧ H' = H₅) (.inl hx) ⟨rfl, rfl⟩ s₅ .none S₅' .none') (fun _ s₆ yy => yy.elim fun _ m₆ H₆ _ S₆ k₆ qq1 => qq1.elim fun e1 e2 => ?_) fun _ _ yy => yy.no))
  subst e1 e2
  refine n_unbind hx (a := .none) (by unfold setL; rw [if_pos rfl]) S₆ (K₅.trans k₆) fun s₇ S₇ K₇ tup => ?_
  obtain ⟨S₈, K₈⟩ := S₇.rem K₇ h2
  refine ⟨fl', _, _, ?_, S₈, K₈, q⟩
  cases fl' with
  | ret x => obtain ⟨v', rfl, rv⟩ := r₅; exact ⟨v', rfl, (rv.keep S₅' k₆).mono tup⟩
  | next => exact r₅
  | brk => exact r₅
  | cont => exact r₅
theorem x_args {a : Addr} {cls : String} {as : List V} {Q : V → Loc → AH → Prop} (FX : ExcAttrFacts cls) (ha : H a = some (.exc (.type cls) as)) (h : Q (.tup as) m H) : W1 g F VR (.ref a) (fun v => getAttr v "args" true) m H Q X := fun s v S r => by
  rw [VR.ref_iff] at r; subst r
  obtain ⟨o, vs, v, e, hc, hi, hd, h0, rv⟩ := (S.obj a _ ha).2
  obtain ⟨t0, ws, ep, rfl, e', r'⟩ := VR.tup_iff.mp rv
  obtain ⟨hh, gg, d, t, os⟩ := s
  exact args_attr FX e hc hd h0 (OkP.now S rfl rfl rfl rv h)
end
end Mine
end
section
open PySem PySem.W PySem.Calls PyProof.Rows PySem.SeqAt
set_option linter.unusedSectionVars false
set_option linter.unusedVariables false
set_option maxRecDepth 100000
namespace Mine
variable [ζ : Dead]
theorem ni_ga : typeLookup (.type "list_iterator") "__getattribute__" = pure (some (.builtin "object.__getattribute__")) := by rw [typeLookup_type, builtinLookup_eq_fast]; kernel_rfl
theorem ni_typ : typeOf (.builtin "list_iterator.__next__") = pure (.type "wrapper_descriptor") := by kernel_rfl
theorem wd_get : typeLookup (.type "wrapper_descriptor") "__get__" = pure (some (.builtin "wrapper_descriptor.__get__")) := by rw [typeLookup_type, builtinLookup_eq_fast]; kernel_rfl
theorem wd_set : typeLookup (.type "wrapper_descriptor") "__set__" = pure none := by rw [typeLookup_type, builtinLookup_eq_fast]; kernel_rfl
theorem wd_del : typeLookup (.type "wrapper_descriptor") "__delete__" = pure none := by rw [typeLookup_type, builtinLookup_eq_fast]; kernel_rfl
theorem wd_slot : Slot "wrapper_descriptor" "__get__" "wrapper_descriptor.__get__" :=
  .of (owner := "wrapper_descriptor") (n := "__get__") (by rw [typeLookup_type, builtinLookup_eq_fast]; kernel_rfl) (by decide +kernel) (by decide +kernel) (by decide +kernel)
    (by first | exact .inl (by decide +kernel) | exact .inr (by decide +kernel)) (by rw [isSubtype_type]; kernel_rfl)
theorem wd_entry : entryFor table "wrapper_descriptor.__get__" = some Builtin.«wrapper_descriptor.__get__» := entryFor_of_tree (by kernel_rfl)
theorem wd_args (a b c : Value) : argsOk "wrapper_descriptor.__get__" ⟨[a, b, c], []⟩ := by unfold argsOk; kernel_rfl
theorem ga_slot : Slot "list_iterator" "__getattribute__" "object.__getattribute__" :=
  .of (owner := "object") (n := "__getattribute__") (by rw [typeLookup_type, builtinLookup_eq_fast]; kernel_rfl) (by decide +kernel) (by decide +kernel) (by decide +kernel)
    (by first | exact .inl (by decide +kernel) | exact .inr (by decide +kernel)) (by rw [isSubtype_type]; kernel_rfl)
theorem ga_args (a b : Value) : argsOk "object.__getattribute__" ⟨[a, b], []⟩ := by unfold argsOk; kernel_rfl
section
variable {prog : Program} {w : World} {A : Around} {E : Value → Shared → Prop} {h : Heap} {g : Array GenState} {d : Drawn} {t : Nat} {os : OsState} {a l : Addr} {i : Nat}
theorem ni_bind {R : Result → Shared → Prop} (hx : h.get? a = some (iterObj l i)) (hq : R (.ok (.ret (.ref h.objs.size))) ⟨h.push (boundObj "list_iterator.__next__" a), g, d, t, os⟩) :
    codeAny (model prog w) A (.call (.builtin "wrapper_descriptor.__get__") ⟨[.builtin "list_iterator.__next__", .ref a, .type "list_iterator"], []⟩) R ⟨h, g, d, t, os⟩ := by
  have hT : (⟨h, g, d, t, os⟩ : Shared).TypeIs (.ref a) "list_iterator" := ⟨_, hx, rfl⟩
  have hT5 : (⟨h, g, d, t, os⟩ : Shared).TypeIs (.builtin "list_iterator.__next__") "wrapper_descriptor" := ni_typ
  refine codeAny_call_builtin wd_slot.plain wd_entry (wd_slot.check _ _ _ _ _ _ _ _ hT5 (wd_args _ _ _) ?_)
  unfold Builtin.«wrapper_descriptor.__get__»
  have f8 : isSubtype (.type "list_iterator") (.type (".".intercalate ("list_iterator.__next__".cutAt '.').dropLast)) = pure true := by
    have e0 : "list_iterator.__next__".cutAt '.' = ["list_iterator", "__next__"] := by first | rfl | decide +kernel
    rw [e0]
    have e1 : (".".intercalate (["list_iterator", "__next__"] : List String).dropLast) = "list_iterator" := by decide +kernel
    rw [e1, isSubtype_type]; kernel_rfl
  repeat (any_goals (first | assumption | wp_step))
open Builtin.ObjectAttr in
theorem ni_find {M : Model} (hx : h.get? a = some (iterObj l i)) : Looks M h (find (.ref a) (.type "list_iterator") "__next__") (.bind (.builtin "wrapper_descriptor.__get__") (.builtin "list_iterator.__next__")) := by
  intro A Q E s k q
  have hx' := k _ _ hx
  unfold find
  refine wpAny_bind (wpAny_of_eq slot_listiter_next.lookup ?_)
  refine wpAny_bind (m := getOf _) ?_
  unfold getOf specialOf
  refine wpAny_bind (wpAny_of_eq ni_typ (wpAny_of_eq wd_get ?_))
  refine wpAny_bind (m := dataDescriptor? _ _) ?_
  unfold dataDescriptor? takesStores specialOf
  refine wpAny_bind (wpAny_bind (wpAny_bind (wpAny_of_eq ni_typ (wpAny_of_eq wd_set ?_))))
  simp only [Option.isSome_none, Bool.false_eq_true, if_false]
  refine wpAny_bind (wpAny_bind (wpAny_of_eq ni_typ (wpAny_of_eq wd_del (wpAny_pure ?_))))
  simp only [Option.isSome_none, Bool.false_eq_true, if_false]
  refine wpAny_pure ?_
  unfold ownThenClass
  refine wpAny_bind ?_
  unfold inOwnDict Builtin.ObjectAttr.ownDict loadHead
  refine wpAny_bind (wpAny_bind (wpAny_loadPart hx' ?_))
  unfold instanceDict
  refine wpAny_bind (wpAny_loadPart hx' (wpAny_pure ?_))
  refine wpAny_pure ?_
  refine wpAny_bind (m := copiedAttributeGuard _ _) ?_
  unfold copiedAttributeGuard
  refine wpAny_of_eq (a := ()) ?_ ?_
  · rfl
  unfold byTheClass
  exact wpAny_bind (wpAny_rule (wpAny_pure q))
open Builtin.ObjectAttr in
theorem ni_get {Q : Value → Shared → Prop} (hx : h.get? a = some (iterObj l i))
    (hq : Q (.ref h.objs.size) ⟨h.push (boundObj "list_iterator.__next__" a), g, d, t + 1, os⟩) : wpAny (model prog w) A (getAttr (.ref a) "__next__" true) Q E ⟨h, g, d, t, os⟩ := by
  have L0 : Looks (model prog w) h (typeOf (.ref a)) (.type "list_iterator") := (Looks.ld hx).andThen .now
  have hT : (⟨h, g, d, t + 1, os⟩ : Shared).TypeIs (.ref a) "list_iterator" := ⟨_, hx, rfl⟩
  unfold getAttr getAttrBy
  refine wpAny_bind (wpAny_mkText (wpAny_holding (wpAny_bind (L0 _ _ _ _ (fun _ _ e => e) (wpAny_bind (wpAny_of_eq ni_ga ?_))))))
  dsimp only
  rw [if_neg (by decide)]
  unfold getAttrByItsOwn hookBefore
  rw [if_neg (by decide)]
  refine wpAny_bind (wpAny_pure (wpAny_bind (wpAny_attempt (wpAny_holding ?_))))
  unfold callGetattribute
  rw [if_neg (by decide)]
  unfold boundAndCalled
  rw [ga_slot.bind]
  refine wpAny_bind (wpAny_pure (wpAny_call (codeAny_call_builtin ga_slot.plain PySem.F.entry_object_getattribute (ga_slot.check _ _ _ _ _ _ _ _ hT (ga_args _ _) ?_))))
  unfold Builtin.«object.__getattribute__»
  refine wpAny_bind (wpAny_pure (wpAny_bind (wpAny_pure (wpAny_bind (L0 _ _ _ _ (fun _ _ e => e) (wpAny_bind (ni_find hx _ _ _ _ (fun _ _ e => e) ?_)))))))
  unfold bindTo
  dsimp only
  refine wpAny_bind (wpAny_holding (wpAny_call (ni_bind hx (wpAny_pure ?_))))
  exact wpAny_pure hq
theorem bound_call {s : Shared} {id : String} {self p : Addr} {B : Builtin} {R : Result → Shared → Prop} (ho : s.heap.get? p = some (boundObj id self)) (he : entryFor table id = some B) (hq : (Code.builtin id ⟨[.ref self], []⟩).quiet = true) (hc : checkBoundCall id ⟨[.ref self], []⟩ = pure ())
    (hw : A.under (.builtin id ⟨[.ref self], []⟩) = A.in1)
    (h : wpAny (model prog w) A.in1 (B ⟨[.ref self], []⟩) (fun fin s' => match fin with | .done f => R (.ok f) s' | .again c' => c'.quiet = true ∧ codeAny (model prog w) A c' R s') (fun e s' => R (.error e) s') s) : codeAny (model prog w) A (.call (.ref p) ⟨[], []⟩) R s := by
  obtain ⟨hh, g, dr, t, os⟩ := s
  refine codeAny_of_tree ?_
  show wpAny _ _ (callAny (.ref p) _) _ _ _
  dsimp only at ho
  refine nd_load ho ?_
  show wpAny _ _ (checkBoundCall id ⟨[.ref self], []⟩ >>= fun _ => again (.builtin id ⟨[.ref self], []⟩)) _ _ _
  refine wpAny_bind (wpAny_of_eq hc (wpAny_pure ⟨hq, codeAny_builtin he ?_⟩))
  rw [hw]; exact h
end
section
variable {g : G} {F : Fm} {m : Loc} {H : AH} {s : Shared} {X : Value → List V → Loc → AH → Prop} {Q : V → Loc → AH → Prop}
theorem c_iter {l : Addr} {xs : List V} (hl : H l = some (.list xs)) (h : ∀ it, H it = none → Q (.ref it) m (put H it (.iter l 0))) : WC g F (.builtin "iter") [.ref l] m H Q X := wc1 fun s v S r => by
  rw [VR.ref_iff] at r; subst r
  obtain ⟨vs, ep, e, rs⟩ := S.listAt hl
  refine call_function_entry (by decide +kernel) (by decide +kernel) kdk_entry_iter (kdk_args_iter _) ?_
  unfold Builtin.«iter»
  refine wpAny_bind (m := someArgs "iter" 1 2 _) (wpAny_of_eq (a := [Value.ref l]) (by first | rfl | kernel_rfl!) ?_)
  show wpAny _ _ (pyIter (.ref l) >>= _) _ _ _
  refine wpAny_bind (wpAny_pyIter_list (items := vs.toArray) ⟨_, e, rfl, ep, rfl⟩ ?_)
  have n : s.heap.get? s.heap.objs.size = none := Heap.get?_none_of_le (Nat.le_refl _)
  obtain ⟨S', K'⟩ := S.new (t := s.toks) (h' := s.heap.push (iterObj l 0)) (o' := .iter l 0) (fun _ _ e => Heap.get?_push_of_some _ e) n (Heap.get?_push_size _ rfl)
  exact wpAny_pure ⟨_, rfl, .ref _, m, _, .ref' _, S', K', h _ (S.untracked n)⟩
theorem x_next {it l : Addr} {i : Nat} (hi : H it = some (.iter l i)) (h : ∀ b, H b = none → Q (.ref b) m (put H b (.bound "list_iterator.__next__" it))) : W1 g F VR (.ref it) (fun v => getAttr v "__next__" true) m H Q X := fun s v S r => by
  rw [VR.ref_iff] at r; subst r
  have e : s.heap.get? it = some (iterObj l i) := (S.obj it _ hi).2
  have n : s.heap.get? s.heap.objs.size = none := Heap.get?_none_of_le (Nat.le_refl _)
  obtain ⟨S', K'⟩ := S.new (t := s.toks + 1) (h' := s.heap.push (boundObj "list_iterator.__next__" it)) (o' := .bound "list_iterator.__next__" it) (fun _ _ e => Heap.get?_push_of_some _ e) n (Heap.get?_push_size _ rfl)
  have fin : OkP g F VR Q s.heap H (.ref s.heap.objs.size) { s with heap := s.heap.push (boundObj "list_iterator.__next__" it), toks := s.toks + 1 } := ⟨.ref _, m, _, .ref' _, S', K', h _ (S.untracked n)⟩
  obtain ⟨hh, gg, d, t, os⟩ := s
  exact ni_get e fin
theorem app_at {xs ys : Array Value} {i : Nat} {v : Value} (h : xs[i]? = some v) : (xs ++ ys)[i]? = some v := by
  rw [Array.getElem?_append_left (Array.getElem?_eq_some_iff.mp h).1]; exact h
theorem ln_check (a : Value) : checkBoundCall "list_iterator.__next__" ⟨[a], []⟩ = pure () := by kernel_rfl
theorem ln_quiet (a : Value) : (Code.builtin "list_iterator.__next__" ⟨[a], []⟩).quiet = true := Code.quiet_builtin _ (by decide +kernel)
theorem ln_plain : plainId "list_iterator.__next__" = true := by decide +kernel
theorem e_callnext {fn : Expr} {pos : Pos} (hh : F.A.handled = none)
    (h : WE g F (eval fn F.env) m H (fun a m H => ∃ b it l i xs, a = .ref b ∧ H b = some (.bound "list_iterator.__next__" it) ∧ H it = some (.iter l i) ∧ H l = some (.list xs) ∧
      match xs[i]? with | some x => Q x m (put H it (.iter l (i + 1))) | none => X (.type "StopIteration") [] m (rem H it)) X)
    (he : eval (.Call fn [] [] pos) F.env = (eval fn F.env >>= fun f => callWith pos f [] (backTo pos (starEach [] F.env)) []) := by rfl) : WE g F (eval (.Call fn [] [] pos) F.env) m H Q X := fun s S => by
  rw [he]
  refine wpAny_bind (h.run S (fun v s₁ a m₁ H₁ r₁ S₁ k₁ qq1 => qq1.elim fun b qq2 => qq2.elim fun it qq3 => qq3.elim fun l qq4 => qq4.elim fun i qq5 => qq5.elim fun xs qq6 => qq6.elim fun e qq7 => qq7.elim fun hb qq8 => qq8.elim fun hi qq9 => qq9.elim fun hl hx => ?_) fun _ _ x => x)
  subst e
  rw [VR.ref_iff] at r₁; subst r₁
  have eb : s₁.heap.get? b = some (boundObj "list_iterator.__next__" it) := (S₁.obj b _ hb).2
  have ei : s₁.heap.get? it = some (iterObj l i) := (S₁.obj it _ hi).2
  obtain ⟨vs, ep, el, rs⟩ := S₁.listAt hl
  refine callWith_of (P := fun h => h.get? b = some (boundObj "list_iterator.__next__" it)) rfl (fun h e => ⟨.machine, .inr (.inl rfl), (Looks.ld (part := none) e).andThen .now⟩) (PySem.evalArgs_none ⟨eb, ?_⟩)
  refine wpAny_call (bound_call eb entry_listiter_next (ln_quiet _) (ln_check _) (Around.under_plainId ln_plain _) ?_)
  show wpAny _ _ (field (.ref it) 0 >>= _) _ _ s₁
  refine wpAny_bind (wpAny_field ei rfl (x := .ref l) rfl ?_)
  show wpAny _ _ (if (Value.ref l == Value.none) = true then _ else _) _ _ s₁
  rw [if_neg (show ¬ ((Value.ref l == Value.none) = true) from Bool.false_ne_true)]
  show wpAny _ _ (field (.ref it) 1 >>= _) _ _ s₁
  refine wpAny_bind (wpAny_field ei rfl (x := .int i 0) rfl ?_)
  show wpAny _ _ (seqItems? (.ref l) >>= _) _ _ s₁
  refine wpAny_bind (wpAny_seqItems el rfl ?_)
  simp only [Int.toNat_natCast, List.getElem?_toArray]
  cases q : xs[i]? with
  | some x =>
    rw [q] at hx
    obtain ⟨v, ev, rv⟩ := rs.getElem? q
    rw [ev]
    refine wpAny_bind (wpAny_setField ei rfl (by simp) ?_)
    have D' : (s₁.heap.update it (Obj.mapFields (·.setIfInBounds 1 (rawInt (i + 1))))).get? it = some (iterObj l (i + 1)) := by
      rw [Heap.get?_update_self _ ei rfl]
      rfl
    have C : Chg (· = it) s₁.heap (s₁.heap.update it (Obj.mapFields (·.setIfInBounds 1 (rawInt (i + 1))))) := .sameBut ⟨Heap.size_update .., fun b q => Heap.get?_update_other _ _ (Ne.symm q)⟩ D' fun o₀ _ _ e' q => by rw [ei] at e'; cases e'; cases q
    obtain ⟨S', K'⟩ := S₁.set (t := s₁.toks) C hi (o' := .iter l (i + 1)) D'
    exact wpAny_pure ⟨x, m₁, _, rv.mono (K'.mono S₁).tup, S', k₁.trans K', hx⟩
  | none =>
    rw [q] at hx
    have hv : vs[i]? = none := by rw [List.getElem?_eq_none_iff] at q ⊢; rw [rs.length]; exact q
    rw [hv]
    refine wpAny_bind (wpAny_rule (wpAny_bind (wpAny_setField ei rfl (by simp) ?_)))
    have D' : (s₁.heap.update it (Obj.mapFields (·.setIfInBounds 0 Value.none))).get? it = some { cls := .type "list_iterator", data := .fields #[.none, .int i 0] } := by
      rw [Heap.get?_update_self _ ei rfl]
      rfl
    have C : Chg (· = it) s₁.heap (s₁.heap.update it (Obj.mapFields (·.setIfInBounds 0 Value.none))) := .sameBut ⟨Heap.size_update .., fun b q => Heap.get?_update_other _ _ (Ne.symm q)⟩ D' fun o₀ _ _ e' q => by rw [ei] at e'; cases e'; cases q
    obtain ⟨S', K'⟩ := S₁.chg (t := s₁.toks) (H' := rem H₁ it) C (fun b e _ => by subst e; rw [hi]; rfl) (fun b => by
      by_cases z : b = it
      · exact .inr (.inr (by unfold rem; rw [if_pos z]))
      · rw [rem_ne z]; cases H₁ b <;> simp) (fun b o e => by
      by_cases z : b = it
      · unfold rem at e; rw [if_pos z] at e; cases e
      · rw [rem_ne z] at e; exact .inl ⟨e, z⟩)
    show wpAny _ _ (newExc (.type "StopIteration") [] >>= _) _ _ _
    refine wpAny_bind ?_
    simp only [newExc, newTuple]
    refine wpAny_bind (wpAny_newObj_type ?_ (by size_fits))
    refine wpAny_bind (m := firstArgMember _ _) (wpAny_of_eq (a := Value.none) (by first | rfl | (simp only [firstArgMember]; rfl)) ?_)
    refine wpAny_newObj_type ?_ (by size_fits)
    simp only [raiseNew]
    refine wpAny_bind (wpAny_handled ?_)
    rw [show F.A.in1.handled = none from hh]
    refine wpAny_bind (wpAny_pure (wpAny_throw ?_))
    have K₁ := k₁.trans K'
    have kp : ∀ b o, (s₁.heap.update it (Obj.mapFields (·.setIfInBounds 0 Value.none))).get? b = some o → (((s₁.heap.update it (Obj.mapFields (·.setIfInBounds 0 Value.none))).push { cls := .type "tuple", data := .seq #[] }).push { cls := .type "StopIteration", data := .fields (#[.ref (s₁.heap.update it (Obj.mapFields (·.setIfInBounds 0 Value.none))).objs.size, Value.none, Value.none, Value.none, Value.bool false, Value.none] ++ ownMembersOf (.type "StopIteration") []) }).get? b = some o :=
      fun b o e => Heap.get?_push_of_some _ (Heap.get?_push_of_some _ e)
    obtain ⟨S₂, K₂⟩ := S'.ext (t := s₁.toks) kp
    have nl := S'.lt (b := ((s₁.heap.update it (Obj.mapFields (·.setIfInBounds 0 Value.none))).push { cls := .type "tuple", data := .seq #[] }).objs.size) (by rw [Heap.size_push]; exact Nat.le_succ _)
    have n0 : s.heap.get? ((s₁.heap.update it (Obj.mapFields (·.setIfInBounds 0 Value.none))).push { cls := .type "tuple", data := .seq #[] }).objs.size = none := by
      cases z : s.heap.get? ((s₁.heap.update it (Obj.mapFields (·.setIfInBounds 0 Value.none))).push { cls := .type "tuple", data := .seq #[] }).objs.size with
      | none => rfl
      | some o =>
        obtain ⟨o', w⟩ := K₁.alive _ o z
        have := nl.2.2
        rw [show (s₁.heap.update it (Obj.mapFields (·.setIfInBounds 0 Value.none))).get? _ = some o' from w] at this
        cases this
    refine ⟨.type "StopIteration", [], m₁, rem H₁ it, ⟨_, _, _, .ref (s₁.heap.update it (Obj.mapFields (·.setIfInBounds 0 Value.none))).objs.size, rfl, n0, nl.1, Heap.get?_push_size _ rfl, rfl, rfl, rfl, ?_, ?_, .inl ?_⟩, S₂, K₁.trans K₂, hx⟩
    · exact app_at rfl
    · exact .tup' (vs := []) (ep := 0) (S'.okn (Nat.le_refl _)) (Heap.get?_push_of_some _ (Heap.get?_push_size _ rfl)) .nil'
    · exact app_at rfl
end
end Mine
end
section
open PySem PySem.W PySem.Calls PyProof.Rows PySem.SeqAt
set_option linter.unusedSectionVars false
set_option linter.unusedVariables false
set_option maxRecDepth 100000
namespace Mine
variable [ζ : Dead]
theorem wp_peek1 {α : Type} {K : Frag} {M : Model} {A : Around} {E : Value → Shared → Prop} {Q : α → Shared → Prop} {s : Shared} {o : Obj} {r : Addr → α} (X : K.In s.heap) (q : Q (r s.heap.objs.size) { s with heap := s.heap.push o }) :
    ∀ (t : Sem α) (g : Addr → Option α), peek1 K ⟨M.prog, M.w.params⟩ t = some (o, g) → (∀ D, g D = some (r D)) → wpAny M A t Q E s := by
  intro t
  induction t with
  | rule _ k ih => intro g e hg Γ p hΓ; exact ih () g e hg Γ p hΓ
  | point _ k ih => intro g e hg Γ p hΓ; exact ih () g e hg Γ p hΓ
  | ask k ih => intro g e hg Γ p hΓ; exact ih _ g e hg Γ p hΓ
  | load a _ k ih =>
    intro g e hg Γ p hΓ
    simp only [peek1] at e
    split at e
    · rename_i ob ho; exact ⟨ob, X _ _ ho, ih ob g e hg Γ p hΓ⟩
    · cases e
  | alloc ob k _ =>
    intro g e hg
    have e : some (ob, fun D => peek K ⟨M.prog, M.w.params⟩ (k D)) = some (o, g) := e
    obtain ⟨e1, e2⟩ := Prod.mk.inj (Option.some.inj e)
    subst e1
    subst e2
    have X' : K.In (s.heap.push ob) := X.keeps fun b x hb => Heap.get?_push_of_some _ hb
    show wpAny M A (alloc ob >>= k) Q E s
    refine wpAny_bind (wpAny_alloc ?_)
    exact (Looks.of_peek (M := M) (h := s.heap.push ob) X' (hg s.heap.objs.size)).here (s := { s with heap := s.heap.push ob }) q
  | _ => intro g e; cases e
theorem BR.append {h : Heap} : ∀ {as bs : List (Str × V)} {us vs : List (Str × Value)}, BR h as us → BR h bs vs → BR h (as ++ bs) (us ++ vs)
  | [], _, _, _, e, f => by cases e; exact f
  | _ :: _, _, _, _, ⟨v, r, e, hv, hr⟩, f => by subst e; exact ⟨v, _, rfl, hv, BR.append hr f⟩
theorem VRs.drop {h : Heap} : ∀ {xs : List V} {vs : List Value} (k : Nat), VRs h xs vs → VRs h (xs.drop k) (vs.drop k)
  | _, _, 0, r => by simpa using r
  | [], _, k + 1, r => by rw [VRs.nil_iff] at r; subst r; simpa using VRs.nil'
  | x :: xs, _, k + 1, r => by obtain ⟨v, r', rfl, _, rr⟩ := r.uncons; simpa using VRs.drop k rr
theorem len9 {α : Type} {P : List α → Prop} (h0 : P []) (h1 : ∀ a : α, P [a]) (h2 : ∀ a b : α, P [a, b]) (h3 : ∀ a b c : α, P [a, b, c]) (h4 : ∀ a b c d : α, P [a, b, c, d]) (h5 : ∀ a b c d e : α, P [a, b, c, d, e]) (h6 : ∀ a b c d e f : α, P [a, b, c, d, e, f]) (h7 : ∀ a b c d e f g : α, P [a, b, c, d, e, f, g]) (h8 : ∀ a b c d e f g h : α, P [a, b, c, d, e, f, g, h]) (h9 : ∀ a b c d e f g h i : α, P [a, b, c, d, e, f, g, h, i]) : ∀ l : List α, l.length ≤ 9 → P l := by
  intro l hl
  rcases l with _ | ⟨a, l⟩
  · exact h0
  rcases l with _ | ⟨b, l⟩
  · exact h1 _
  rcases l with _ | ⟨c, l⟩
  · exact h2 _ _
  rcases l with _ | ⟨d, l⟩
  · exact h3 _ _ _
  rcases l with _ | ⟨e, l⟩
  · exact h4 _ _ _ _
  rcases l with _ | ⟨f, l⟩
  · exact h5 _ _ _ _ _
  rcases l with _ | ⟨g, l⟩
  · exact h6 _ _ _ _ _ _
  rcases l with _ | ⟨h, l⟩
  · exact h7 _ _ _ _ _ _ _
  rcases l with _ | ⟨i, l⟩
  · exact h8 _ _ _ _ _ _ _ _
  rcases l with _ | ⟨j, l⟩
  · exact h9 _ _ _ _ _ _ _ _ _
  exact absurd hl (by simp)
section
variable {g : G} {F : Fm} {m : Loc} {H : AH} {s : Shared} {X : Value → List V → Loc → AH → Prop} {Q : V → Loc → AH → Prop}
theorem binds_var {fd : FuncData} {xs : List V} {pre : List (Str × V)} {vn : Str} {k : Nat} (rp : List Value → List (Str × Value))
    (e : ∀ vs S, vs.length = xs.length → ∃ gf, peek1 g.K S (bindArgs fd ⟨vs, []⟩) = some (tupObj (vs.drop k) 0, gf) ∧ ∀ D, gf D = some (rp vs ++ [(vn, .ref D)])) (hr : ∀ h vs, VRs h xs vs → BR h pre (rp vs)) :
    Binds g fd xs (pre ++ [(vn, .tup (xs.drop k))]) := fun A s vs E Q X dd hv hq => by
  obtain ⟨gf, e1, e2⟩ := e vs ⟨g.prog, g.w.params⟩ hv.length
  have kp : ∀ b o, s.heap.get? b = some o → (s.heap.push (tupObj (vs.drop k) 0)).get? b = some o := fun _ _ e => Heap.get?_push_of_some _ e
  refine wp_peek1 (M := model g.prog g.w) X (hq _ _ kp ?_) _ gf e1 e2
  refine ((hr _ _ hv).mono (fun _ _ _ e => kp _ _ e)).append ⟨_, [], rfl, .tup' (fun z => by obtain ⟨o, e⟩ := dd _ z; rw [Heap.get?_none_of_le (Nat.le_refl _)] at e; cases e) (Heap.get?_push_size _ rfl) ((hv.drop k).mono fun _ _ _ e => kp _ _ e), rfl⟩
structure MethB (K : Frag) (C : Addr) (name : Str) (f : Addr) : Prop where
  plain : plainGet K C name = true
  dict : hasDictIn K C = true
  find : findIn K (.ref C) name = some (some (.ref f))
  fn : isFn K (.ref f) = true
  isF : fnIn K f = true
  get : specialIn K (.ref f) "__get__" = some (some (.builtin "function.__get__"))
  takes : takesIn K (.ref f) = some false
  copied : copiedNames.contains name = false
theorem e_methstar {o e : Expr} {name : Str} {apos pos p : Pos}
    (h : WE g F (eval o F.env) m H (fun a m H => ∃ x C dx fs f, a = .ref x ∧ H x = some (.inst C dx) ∧ H dx = some (.ns fs) ∧ MethB g.K C name f ∧ fs.lookup name = none ∧
      WE g F (eval e F.env) m H (fun b m H => ∃ xs, Items g b H xs ∧ WCode g F (.ref f) (.ref x :: xs) m H Q X) X) X)
    (hbase : attributeBase o name F.env (eval o F.env) = eval o F.env := by rfl) : WE g F (eval (.Call (.Attribute o name apos) [.Starred e p] [] pos) F.env) m H Q X := fun s S => by
  rw [arm_eval_Call, hbase]
  refine wpAny_bind (h.run S (fun v s₁ a m₁ H₁ r₁ S₁ k₁ qq1 => qq1.elim fun x qq2 => qq2.elim fun C qq3 => qq3.elim fun dx qq4 => qq4.elim fun fs qq5 => qq5.elim fun f qq6 => qq6.elim fun e1 qq7 => qq7.elim fun hx qq8 => qq8.elim fun hd qq9 => qq9.elim fun M qq10 => qq10.elim fun hn h₁ => ?_) fun _ _ x => x)
  subst e1
  rw [VR.ref_iff] at r₁; subst r₁
  refine wpAny_bind (wpAny_standAt ?_)
  unfold methodCall
  have hform : methodCallForm ([Expr.Starred e p].length + ([] : List Keyword).length) (backTo pos (starEach [.Starred e p] F.env)) (backToKw pos (keywordEach [] F.env)) = false := rfl
  rw [hform]
  have hpos : methodCallPos false o F.env apos pos = pure pos := rfl
  unfold calleeOf
  obtain ⟨es, n, I, _, hr⟩ := inst_at S₁ hx hd
  refine wpAny_bind (wpAny_holding ?_)
  rw [if_neg (by decide)]
  have kp : ∀ b o, s₁.heap.get? b = some o → (s₁.heap.push (methodObj (.ref f) (.ref x))).get? b = some o := fun _ _ e => Heap.get?_push_of_some _ e
  obtain ⟨S₂, k₂⟩ := S₁.ext (t := s₁.toks + 1) kp
  have K₂ := k₁.trans k₂
  refine wpAny_bind (get_bind S₁.kin I (plainGet_of M.plain).1 (findObj_fn M.dict M.find M.get M.takes M.copied (by show lookIn name (dictOf es n) = _; rw [lookIn_dict, nsR_miss hr hn])) (plainGet_of M.plain).2
    (wpAny_call (fn_get (s := { s₁ with toks := s₁.toks + 1 }) S₁.kin (beq_iff_eq.mp M.fn) (handed_on rfl ?_))))
  refine wpAny_pure (wpAny_bind (wpAny_of_eq hpos ?_))
  have eq₂ : (s₁.heap.push (methodObj (.ref f) (.ref x))).get? s₁.heap.objs.size = some (methodObj (.ref f) (.ref x)) := Heap.get?_push_size _ rfl
  have un : H₁ s₁.heap.objs.size = none := (S₁.lt (Nat.le_refl _)).1
  refine ks_call (P := MethP g.K s₁.heap.objs.size f (.ref x)) rfl (keeps_M M.isF) (ks_lone (h₁.run S₂ (fun b s₃ b' m₃ H₃ r₃ S₃ k₃ qq1 => qq1.elim fun xs qq2 => qq2.elim fun hi h₃ => hi.star S₃ r₃ fun vs h' kp' rv => ?_) fun _ _ y => y.after K₂))
  obtain ⟨S₄, k₄⟩ := S₃.ext (t := s₃.toks) kp'
  have K₄ := (K₂.trans k₃).trans k₄
  have at₃ : s₃.heap.get? s₁.heap.objs.size = some (methodObj (.ref f) (.ref x)) := by
    have nm : s₁.heap.objs.size ∉ F.mine := S₁.fresh
    obtain ⟨_, z⟩ := k₃.same _ _ eq₂ un nm
    rcases z with z | ⟨z, _⟩
    · exact z
    · obtain ⟨_, o', es', ep', e', d'⟩ := S₂.frd _ z
      rw [show (s₁.heap.push (methodObj (.ref f) (.ref x))).get? s₁.heap.objs.size = some o' from e'] at eq₂
      cases eq₂; cases d'
  refine ⟨⟨kp' _ _ at₃, S₄.kin⟩, wpAny_call (method_call (kp' _ _ at₃) ?_)⟩
  refine codeAny_mono (h₃ _ (.ref x :: vs) S₄ (.cons (.ref' x) rv)) fun r s' z => ?_
  rcases r with e | (v | _ | _ | _)
  · exact ErP.after K₄ z
  all_goals first | exact z.elim | exact OkP.after K₄ z
end
end Mine
end
section
open PySem PySem.W PySem.Calls PyProof.Rows PySem.SeqAt
set_option linter.unusedSectionVars false
set_option linter.unusedVariables false
set_option maxRecDepth 100000
namespace Mine
variable [ζ : Dead]
noncomputable def Sat (H : AH) (L : List (Addr × O)) : Prop := (L.map (·.1)).Nodup ∧ ∀ p ∈ L, H p.1 = some p.2
theorem Sat.get {H : AH} {L : List (Addr × O)} {a : Addr} {o : O} (s : Sat H L) (h : (a, o) ∈ L) : H a = some o := s.2 _ h
theorem Sat.perm {H : AH} {L L' : List (Addr × O)} (s : Sat H L) (p : L.Perm L') : Sat H L' := ⟨(p.map _).nodup_iff.mp s.1, fun q hq => s.2 q (p.mem_iff.mpr hq)⟩
theorem Sat.set {H : AH} {L : List (Addr × O)} {a : Addr} {o : O} (s : Sat H ((a, o) :: L)) (o' : O) : Sat (put H a o') ((a, o') :: L) := by
  obtain ⟨n, h⟩ := s
  rw [List.map_cons, List.nodup_cons] at n
  refine ⟨by rw [List.map_cons, List.nodup_cons]; exact n, fun p hp => ?_⟩
  rcases List.mem_cons.mp hp with rfl | hp
  · exact put_self ..
  · rw [put_ne _ _ fun q => n.1 (List.mem_map.mpr ⟨p, hp, q⟩)]
    exact h p (List.mem_cons_of_mem _ hp)
theorem Sat.new {H : AH} {L : List (Addr × O)} {a : Addr} {o : O} (s : Sat H L) (h : H a = none) : Sat (put H a o) ((a, o) :: L) := by
  obtain ⟨n, hL⟩ := s
  have ne : ∀ p ∈ L, p.1 ≠ a := fun p hp q => by have := hL p hp; rw [q, h] at this; cases this
  refine ⟨by rw [List.map_cons, List.nodup_cons]; exact ⟨fun q => by obtain ⟨p, hp, e⟩ := List.mem_map.mp q; exact ne p hp e, n⟩, fun p hp => ?_⟩
  rcases List.mem_cons.mp hp with rfl | hp
  · exact put_self ..
  · rw [put_ne _ _ (ne p hp)]; exact hL p hp
theorem Sat.mid {H : AH} {A C : List (Addr × O)} {a : Addr} {o : O} (s : Sat H (A ++ (a, o) :: C)) (o' : O) : Sat (put H a o') (A ++ (a, o') :: C) :=
  ((s.perm List.perm_middle).set o').perm List.perm_middle.symm
theorem Sat.tail {H : AH} {A C : List (Addr × O)} (s : Sat H (A ++ C)) : Sat H C := ⟨by have := s.1; rw [List.map_append] at this; exact (List.nodup_append.mp this).2.1, fun p hp => s.2 p (List.mem_append_right _ hp)⟩
theorem Sat.sublist {H : AH} {L L' : List (Addr × O)} (s : Sat H L) (h : L'.Sublist L) : Sat H L' := ⟨(h.map _).nodup s.1, fun p hp => s.2 p (h.subset hp)⟩
theorem Sat.nil (H : AH) : Sat H [] := ⟨List.nodup_nil, fun _ h => by cases h⟩
theorem Sat.rem {H : AH} {L : List (Addr × O)} {a : Addr} {o : O} (s : Sat H ((a, o) :: L)) : Sat (Mine.rem H a) L := by
  obtain ⟨n, h⟩ := s
  rw [List.map_cons, List.nodup_cons] at n
  refine ⟨n.2, fun p hp => ?_⟩
  rw [rem_ne fun q => n.1 (List.mem_map.mpr ⟨p, hp, q⟩)]
  exact h p (List.mem_cons_of_mem _ hp)
theorem Sat.at0 {H : AH} {L : List (Addr × O)} {a : Addr} {o : O} (s : Sat H ((a, o) :: L)) : H a = some o := s.2 _ (.head _)
theorem Sat.at1 {H : AH} {L : List (Addr × O)} {a : Addr} {o : O} {p : Addr × O} (s : Sat H (p :: (a, o) :: L)) : H a = some o := s.2 _ (.tail _ (.head _))
theorem Sat.at2 {H : AH} {L : List (Addr × O)} {a : Addr} {o : O} {p q : Addr × O} (s : Sat H (p :: q :: (a, o) :: L)) : H a = some o := s.2 _ (.tail _ (.tail _ (.head _)))
theorem Sat.at3 {H : AH} {L : List (Addr × O)} {a : Addr} {o : O} {p q r : Addr × O} (s : Sat H (p :: q :: r :: (a, o) :: L)) : H a = some o := s.2 _ (.tail _ (.tail _ (.tail _ (.head _))))
theorem Sat.set1 {H : AH} {L : List (Addr × O)} {a : Addr} {o : O} {p : Addr × O} (s : Sat H (p :: (a, o) :: L)) (o' : O) : Sat (put H a o') (p :: (a, o') :: L) := s.mid (A := [p]) o'
theorem Sat.set2 {H : AH} {L : List (Addr × O)} {a : Addr} {o : O} {p q : Addr × O} (s : Sat H (p :: q :: (a, o) :: L)) (o' : O) : Sat (put H a o') (p :: q :: (a, o') :: L) := s.mid (A := [p, q]) o'
theorem Sat.set3 {H : AH} {L : List (Addr × O)} {a : Addr} {o : O} {p q r : Addr × O} (s : Sat H (p :: q :: r :: (a, o) :: L)) (o' : O) : Sat (put H a o') (p :: q :: r :: (a, o') :: L) := s.mid (A := [p, q, r]) o'
theorem Sat.at5 {H : AH} {L : List (Addr × O)} {a : Addr} {o : O} {p q r t u : Addr × O} (s : Sat H (p :: q :: r :: t :: u :: (a, o) :: L)) : H a = some o := s.2 _ (.tail _ (.tail _ (.tail _ (.tail _ (.tail _ (.head _))))))
theorem Sat.set5 {H : AH} {L : List (Addr × O)} {a : Addr} {o : O} {p q r t u : Addr × O} (s : Sat H (p :: q :: r :: t :: u :: (a, o) :: L)) (o' : O) : Sat (put H a o') (p :: q :: r :: t :: u :: (a, o') :: L) := s.mid (A := [p, q, r, t, u]) o'
theorem cd_handed (i : Int) : handed (cd i) = true := nameAt_cases (P := fun p => handed p.1 = true) (by decide) i.toNat
noncomputable def cds (ns : List Int) : List V := ns.map cd
theorem cds_length (ns : List Int) : (cds ns).length = ns.length := by unfold cds; simp
theorem cds_get {ns : List Int} {i : Nat} (h : i < ns.length) : (cds ns).getD i .none = cd ns[i] := by
  unfold cds; rw [List.getD_eq_getElem?_getD, List.getElem?_map, List.getElem?_eq_getElem h]; rfl
theorem cds_at {ns : List Int} {i : Nat} {n : Int} (e : ns[i]? = some n) : (cds ns)[i]? = some (cd n) := by unfold cds; simp [e]
theorem cds_snoc (ns : List Int) (k : Int) : cds ns ++ [cd k] = cds (ns ++ [k]) := by unfold cds; simp
structure Row where
  k : Int
  na : Addr
  np : Int
  la : Addr
  su : List Int
structure Srt where
  x : Addr
  dx : Addr
  d : Addr
  ep : Nat
  rows : List Row
  rd : Option (Addr × List Int)
  po : Int
  nf : Int
noncomputable def rowLay (r : Row) : List (Addr × O) := [(r.na, .node 40 [cd r.k, .int r.np, .ref r.la]), (r.la, .list (cds r.su))]
noncomputable def rowsLay (rs : List Row) : List (Addr × O) := rs.flatMap rowLay
noncomputable def rdLay : Option (Addr × List Int) → List (Addr × O)
  | none => []
  | some (a, ns) => [(a, .list (cds ns))]
noncomputable def rdV : Option (Addr × List Int) → V
  | none => .none
  | some (a, _) => .ref a
noncomputable def nsOf (d : Addr) (rd : V) (po nf : Int) : List (Str × V) := [("_node2info", .ref d), ("_ready_nodes", rd), ("_npassedout", .int po), ("_nfinished", .int nf)]
noncomputable def dictOfRows (rs : List Row) : List (Int × V) := rs.map fun r => (r.k, .ref r.na)
noncomputable def Srt.lay (σ : Srt) : List (Addr × O) := (σ.x, .inst 137 σ.dx) :: (σ.dx, .ns (nsOf σ.d (rdV σ.rd) σ.po σ.nf)) :: (σ.d, .dict (dictOfRows σ.rows) σ.ep) :: (rdLay σ.rd ++ rowsLay σ.rows)
theorem Srt.inst {σ : Srt} {B : List (Addr × O)} {H : AH} (s : Sat H (σ.lay ++ B)) : H σ.x = some (.inst 137 σ.dx) := s.get (by simp [Srt.lay])
theorem Srt.ns {σ : Srt} {B : List (Addr × O)} {H : AH} (s : Sat H (σ.lay ++ B)) : H σ.dx = some (.ns (nsOf σ.d (rdV σ.rd) σ.po σ.nf)) := s.get (by simp [Srt.lay])
theorem Srt.dict {σ : Srt} {B : List (Addr × O)} {H : AH} (s : Sat H (σ.lay ++ B)) : H σ.d = some (.dict (dictOfRows σ.rows) σ.ep) := s.get (by simp [Srt.lay])
theorem Srt.ready {σ : Srt} {B : List (Addr × O)} {H : AH} {a : Addr} {ns : List Int} (s : Sat H (σ.lay ++ B)) (e : σ.rd = some (a, ns)) : H a = some (.list (cds ns)) := s.get (by simp [Srt.lay, e, rdLay])
theorem Srt.node {σ : Srt} {B : List (Addr × O)} {H : AH} {r : Row} (s : Sat H (σ.lay ++ B)) (h : r ∈ σ.rows) : H r.na = some (.node 40 [cd r.k, .int r.np, .ref r.la]) := s.get (by
  refine List.mem_append_left _ (List.mem_cons_of_mem _ (List.mem_cons_of_mem _ (List.mem_cons_of_mem _ (List.mem_append_right _ (List.mem_flatMap.mpr ⟨r, h, ?_⟩)))))
  simp [rowLay])
theorem Srt.succs {σ : Srt} {B : List (Addr × O)} {H : AH} {r : Row} (s : Sat H (σ.lay ++ B)) (h : r ∈ σ.rows) : H r.la = some (.list (cds r.su)) := s.get (by
  refine List.mem_append_left _ (List.mem_cons_of_mem _ (List.mem_cons_of_mem _ (List.mem_cons_of_mem _ (List.mem_append_right _ (List.mem_flatMap.mpr ⟨r, h, ?_⟩)))))
  simp [rowLay])
end Mine
end
section
open PySem PySem.W PySem.Calls PyProof.Rows PySem.SeqAt
set_option linter.unusedSectionVars false
set_option linter.unusedVariables false
set_option maxRecDepth 100000
namespace Mine
variable [ζ : Dead]
section
variable {g : G} {F : Fm} {m : Loc} {H : AH} {s : Shared} {X : Value → List V → Loc → AH → Prop} {Q : V → Loc → AH → Prop}
theorem d_code {f : Addr} {fd : FuncData} {oc : Value} {od : Option Addr} {osl : Array (Option Value)} {body : List Stmt} {xs : List V} {bs : List (Str × V)}
    (ho : g.K.lookup f = some ⟨oc, od, .func fd, osl⟩) (hcd : codeIn g.K fd.code fd.qualname = true) (hbody : fd.body = .stmts body) (hg : fd.globals = mainGlobals) (hb : fd.builtins = builtinsNs) (hcl : fd.closure = [])
    (hco : fd.scope.isCoroutine = false) (hgen : fd.scope.isGenerator = false) (hk : fd.scope.kind = .function) (hl : F.lvl < 100) (hbind : Binds g fd xs bs)
    (hkind : (bs.all fun x => fd.scope.names.lookup x.1 == some .local || fd.scope.names.lookup x.1 == some .cell) = true)
    (h : ∀ F', FrameOf F' F fd.scope → WS g F' (execs body F'.env) (bindAbs bs fun _ => none) H (kVal Q Fl.val m) (kErr X m)) : WCode g F (.ref f) xs m H Q X :=
  fun s vs S hv => c_code ho hcd hbody hg hb hcl hco hgen hk hl hbind hkind h S hv
theorem FrameOf.kindOf {F' F : Fm} {sc : Scope} (x : FrameOf F' F sc) (n : Str) : F'.env.kindOf n = sc.names.lookup n := by unfold Env.kindOf; rw [x.scope]
theorem FrameOf.st {F' F : Fm} {sc : Scope} (x : FrameOf F' F sc) : F'.stack ≠ [] := by rw [x.stack]; simp
theorem FrameOf.hh {F' F : Fm} {sc : Scope} (x : FrameOf F' F sc) (h : F.A.handled = none) : F'.A.handled = none := x.handled.trans h
theorem FrameOf.loc {F' F : Fm} {sc : Scope} (x : FrameOf F' F sc) {n : Str} (h : sc.names.lookup n = some .local) : Stores F' n := .inl ((x.kindOf n).trans h)
theorem FrameOf.cel {F' F : Fm} {sc : Scope} (x : FrameOf F' F sc) {n : Str} (h : sc.names.lookup n = some .cell) : Stores F' n := .inr ⟨(x.kindOf n).trans h, x.cells n h⟩
theorem FrameOf.glo {F' F : Fm} {sc : Scope} (x : FrameOf F' F sc) {n : Str} (h : sc.names.lookup n = some .globalImplicit) : F'.env.kindOf n = some .globalImplicit := (x.kindOf n).trans h
theorem FrameOf.lv {F' F : Fm} {sc : Scope} (x : FrameOf F' F sc) {a b : Nat} (hl : F.lvl < a) (h : Nat.ble (a + 1) b = true) : F'.lvl < b := by
  have := Nat.le_of_ble_eq_true h
  rw [x.lvl]; exact o142 this hl
theorem lv100 {n a : Nat} (hl : n < a) (h : Nat.ble a 100 = true) : n < 100 := Nat.lt_of_lt_of_le hl (Nat.le_of_ble_eq_true h)
theorem deps_le (ns : List Int) : deps (nums ns) ≤ 1000 := by rw [deps_ints]; exact o92
theorem len_60 {xs : List V} (h : xs.length ≤ 1000) : xs.length < 2 ^ 60 := by exact o330 h
theorem o_at {l : Addr} {xs : List V} {k : Nat} {x : V} (hl : LA g H l xs) (hk : k < 1000) (hx : xs[k]? = some x) (h : Q x m H) : W2 g F VR (.ref l) (.int (0 + (k : Int))) getItem m H Q X :=
  o_item hl (by exact o143) (by exact o331 hk) (by rw [show (0 + (k : Int)).toNat = k by exact o144]; exact hx) h
theorem gi_at {l : Addr} {xs : List V} {k : Nat} {x : V} (hl : LA g H l xs) (hk : k < 1000) (hx : xs[k]? = some x) (h : Q x m H) : GI g F (.ref l) (.int (0 + (k : Int))) m H Q X := gi_list hl (o_at hl hk hx h)
theorem it_rangeN {n : Nat} {b : Int} (hb : b = n) (hn : n ≤ 1000) : Iterable g (.rng 0 b 1) n (fun i => .int (0 + (i : Int))) (fun _ => True) := by
  subst hb
  exact it_range (by exact o332) (by exact o333 hn) (by split <;> omega)
end
end Mine
end
section
open PySem PySem.W PySem.Calls PyProof.Rows PySem.SeqAt
set_option linter.unusedSectionVars false
set_option linter.unusedVariables false
set_option maxRecDepth 100000
namespace Mine
variable [ζ : Dead]
structure PRow where
  k : Int
  np : Int
  su : List Int
structure PS where
  rows : List PRow
  rd : Option (List Int)
  po : Int
  nf : Int
noncomputable def Row.abs (r : Row) : PRow := ⟨r.k, r.np, r.su⟩
noncomputable def Srt.abs (σ : Srt) : PS := ⟨σ.rows.map Row.abs, σ.rd.map (·.2), σ.po, σ.nf⟩
noncomputable def PS.names (p : PS) : List Int := p.rows.map (cl ·.k)
noncomputable def PS.upd (p : PS) (k : Int) (f : PRow → PRow) : PS := { p with rows := p.rows.map fun r => if cl r.k = cl k then f r else r }
noncomputable def PS.ens (p : PS) (k : Int) : PS := if cl k ∈ p.names then p else { p with rows := p.rows ++ [⟨k, 0, []⟩] }
noncomputable def PS.tell (p : PS) (k : Int) (q : Int) : PS := (p.ens q).upd q fun r => { r with su := r.su ++ [k] }
noncomputable def PS.add (p : PS) (k : Int) (ps : List Int) : PS := ps.foldl (fun p q => p.tell k q) ((p.ens k).upd k fun r => { r with np := r.np + ps.length })
noncomputable def Srt.upd (σ : Srt) (k : Int) (f : Row → Row) : Srt := { σ with rows := σ.rows.map fun r => if cl r.k = cl k then f r else r }
theorem Srt.names_abs (σ : Srt) : σ.abs.names = σ.rows.map (cl ·.k) := by unfold Srt.abs PS.names; simp [Row.abs]
theorem rows_split {rows : List Row} {r : Row} (hr : r ∈ rows) (hk : (rows.map (cl ·.k)).Nodup) : ∃ pre post, rows = pre ++ r :: post ∧ ∀ f : Row → Row, (rows.map fun r' => if cl r'.k = cl r.k then f r' else r') = pre ++ f r :: post := by
  obtain ⟨pre, post, e⟩ := List.append_of_mem hr
  subst e
  rw [List.map_append, List.map_cons] at hk
  have h1 := List.nodup_append.mp hk
  have h2 := List.nodup_cons.mp h1.2.1
  refine ⟨pre, post, rfl, fun f => ?_⟩
  rw [List.map_append, List.map_cons, if_pos rfl]
  have e1 : pre.map (fun r' => if cl r'.k = cl r.k then f r' else r') = pre := by
    conv => rhs; rw [← List.map_id pre]
    refine List.map_congr_left fun r' hr' => if_neg fun q => ?_
    exact h1.2.2 (cl r'.k) (List.mem_map_of_mem (f := fun r : Row => cl r.k) hr') (cl r.k) List.mem_cons_self q
  have e2 : post.map (fun r' => if cl r'.k = cl r.k then f r' else r') = post := by
    conv => rhs; rw [← List.map_id post]
    refine List.map_congr_left fun r' hr' => if_neg fun q => h2.1 ?_
    rw [← q]; exact List.mem_map_of_mem (f := fun r : Row => cl r.k) hr'
  rw [e1, e2]
theorem Srt.abs_upd (σ : Srt) (k : Int) (f : Row → Row) (f' : PRow → PRow) (h : ∀ r, (f r).abs = f' r.abs) : (σ.upd k f).abs = σ.abs.upd k f' := by
  unfold Srt.upd Srt.abs PS.upd
  simp only [List.map_map, PS.mk.injEq, and_self, and_true]
  refine List.map_congr_left fun r _ => ?_
  show Row.abs (if cl r.k = cl k then f r else r) = if cl (Row.abs r).k = cl k then f' (Row.abs r) else Row.abs r
  by_cases q : cl r.k = cl k
  · rw [if_pos q, if_pos (show cl (Row.abs r).k = cl k from q), h]
  · rw [if_neg q, if_neg (show ¬ cl (Row.abs r).k = cl k from q)]
theorem Srt.keys_upd (σ : Srt) (k : Int) (f : Row → Row) (h : ∀ r, (f r).k = r.k) : ((σ.upd k f).rows.map (cl ·.k)) = σ.rows.map (cl ·.k) := by
  unfold Srt.upd
  rw [List.map_map]
  refine List.map_congr_left fun r _ => ?_
  show cl (if cl r.k = cl k then f r else r).k = cl r.k
  split
  · exact congrArg cl (h r)
  · rfl
theorem perm_rot {α : Type} (X Y B : List α) : (X ++ (Y ++ B)).Perm (Y ++ (X ++ B)) := by
  rw [← List.append_assoc, ← List.append_assoc]; exact List.perm_append_comm.append_right B
section
variable {H : AH} {σ : Srt} {B : List (Addr × O)} {r : Row}
theorem rowsLay_split (pre post : List Row) (r : Row) : rowsLay (pre ++ r :: post) = rowsLay pre ++ rowLay r ++ rowsLay post := by unfold rowsLay; simp [List.flatMap_append, List.flatMap_cons]
theorem Srt.setNode (s : Sat H (σ.lay ++ B)) (hr : r ∈ σ.rows) (hk : (σ.rows.map (cl ·.k)).Nodup) (np : Int) : Sat (put H r.na (.node 40 [cd r.k, .int np, .ref r.la])) ((σ.upd r.k fun r => { r with np := np }).lay ++ B) := by
  obtain ⟨pre, post, e, hf⟩ := rows_split hr hk
  have e2 := hf fun r => { r with np := np }
  unfold Srt.lay Srt.upd at *
  simp only at *
  have d : dictOfRows (pre ++ { r with np := np } :: post) = dictOfRows (pre ++ r :: post) := by unfold dictOfRows; simp
  rw [e2, d]
  rw [e] at s
  rw [rowsLay_split] at s ⊢
  have := Sat.mid (A := (σ.x, .inst 137 σ.dx) :: (σ.dx, .ns (nsOf σ.d (rdV σ.rd) σ.po σ.nf)) :: (σ.d, .dict (dictOfRows (pre ++ r :: post)) σ.ep) :: (rdLay σ.rd ++ rowsLay pre)) (a := r.na) (o := .node 40 [cd r.k, .int r.np, .ref r.la]) (C := (r.la, .list (cds r.su)) :: (rowsLay post ++ B)) (by simpa [rowLay] using s) (.node 40 [cd r.k, .int np, .ref r.la])
  simpa [rowLay] using this
theorem Srt.setSu (s : Sat H (σ.lay ++ B)) (hr : r ∈ σ.rows) (hk : (σ.rows.map (cl ·.k)).Nodup) (su : List Int) : Sat (put H r.la (.list (cds su))) ((σ.upd r.k fun r => { r with su := su }).lay ++ B) := by
  obtain ⟨pre, post, e, hf⟩ := rows_split hr hk
  have e2 := hf fun r => { r with su := su }
  unfold Srt.lay Srt.upd at *
  simp only at *
  have d : dictOfRows (pre ++ { r with su := su } :: post) = dictOfRows (pre ++ r :: post) := by unfold dictOfRows; simp
  rw [e2, d]
  rw [e] at s
  rw [rowsLay_split] at s ⊢
  have := Sat.mid (A := (σ.x, .inst 137 σ.dx) :: (σ.dx, .ns (nsOf σ.d (rdV σ.rd) σ.po σ.nf)) :: (σ.d, .dict (dictOfRows (pre ++ r :: post)) σ.ep) :: (rdLay σ.rd ++ rowsLay pre ++ [(r.na, .node 40 [cd r.k, .int r.np, .ref r.la])])) (a := r.la) (o := .list (cds r.su)) (C := rowsLay post ++ B) (by simpa [rowLay] using s) (.list (cds su))
  simpa [rowLay] using this
theorem Srt.setNs (s : Sat H (σ.lay ++ B)) (po nf : Int) : Sat (put H σ.dx (.ns (nsOf σ.d (rdV σ.rd) po nf))) (({ σ with po := po, nf := nf } : Srt).lay ++ B) :=
  Sat.mid (A := [(σ.x, .inst 137 σ.dx)]) (a := σ.dx) (C := (σ.d, .dict (dictOfRows σ.rows) σ.ep) :: ((rdLay σ.rd ++ rowsLay σ.rows) ++ B)) s _
theorem Srt.setReady {a : Addr} {ns : List Int} (s : Sat H (σ.lay ++ B)) (e : σ.rd = some (a, ns)) (ns' : List Int) : Sat (put H a (.list (cds ns'))) (({ σ with rd := some (a, ns') } : Srt).lay ++ B) := by
  unfold Srt.lay at *
  rw [e] at s
  exact Sat.mid (A := [(σ.x, .inst 137 σ.dx), (σ.dx, .ns (nsOf σ.d (rdV (some (a, ns))) σ.po σ.nf)), (σ.d, .dict (dictOfRows σ.rows) σ.ep)]) (a := a) (C := rowsLay σ.rows ++ B) (by simpa [rdLay] using s) _
theorem Srt.newRow (s : Sat H (σ.lay ++ B)) {k : Int} {na la : Addr} {ep : Nat} {H' : AH} (s' : Sat H' ((na, .node 40 [cd k, .int 0, .ref la]) :: (la, .list []) :: (σ.lay ++ B))) :
    Sat (put H' σ.d (.dict (dictOfRows (σ.rows ++ [⟨k, na, 0, la, []⟩])) ep)) (({ σ with rows := σ.rows ++ [⟨k, na, 0, la, []⟩], ep := ep } : Srt).lay ++ B) := by
  have p : ((na, O.node 40 [cd k, .int 0, .ref la]) :: (la, O.list []) :: (σ.lay ++ B)).Perm ([(σ.x, .inst 137 σ.dx), (σ.dx, .ns (nsOf σ.d (rdV σ.rd) σ.po σ.nf))] ++ (σ.d, .dict (dictOfRows σ.rows) σ.ep) :: ((rdLay σ.rd ++ rowsLay σ.rows) ++ (rowLay ⟨k, na, 0, la, []⟩ ++ B))) := by
    unfold Srt.lay rowLay
    simp only [List.cons_append, List.nil_append, List.append_assoc, cds, List.map_nil]
    have := perm_rot [(na, O.node 40 [cd k, .int 0, .ref la]), (la, O.list [])] ([(σ.x, O.inst 137 σ.dx), (σ.dx, .ns (nsOf σ.d (rdV σ.rd) σ.po σ.nf)), (σ.d, .dict (dictOfRows σ.rows) σ.ep)] ++ (rdLay σ.rd ++ rowsLay σ.rows)) B
    simpa using this
  have z := (s'.perm p).mid (.dict (dictOfRows (σ.rows ++ [⟨k, na, 0, la, []⟩])) ep)
  unfold Srt.lay
  have e : rowsLay (σ.rows ++ [⟨k, na, 0, la, []⟩]) = rowsLay σ.rows ++ rowLay ⟨k, na, 0, la, []⟩ := by unfold rowsLay; simp [List.flatMap_append]
  simp only at z ⊢
  rw [e]
  simpa using z
end
end Mine
end
section
open PySem PySem.W PySem.Calls PyProof.Rows PySem.SeqAt
set_option linter.unusedSectionVars false
set_option linter.unusedVariables false
set_option maxRecDepth 100000
namespace Mine
variable [ζ : Dead]
theorem swaps_by {env : Env} {sc : Scope} (h : env.scope = sc) {e : Expr} {t : Option Expr} {n : Nat} {r : Sem Bool} (q : swapsWith e t n { env with scope := sc } = r) : swapsWith e t n env = r := by subst h; exact q
section
variable {g : G} {F : Fm} {m : Loc} {H : AH} {s : Shared} {X : Value → List V → Loc → AH → Prop} {Q : Fl → Loc → AH → Prop}
end
end Mine
end
section
open PySem PySem.W PySem.Calls PyProof.Rows PySem.SeqAt
set_option linter.unusedSectionVars false
set_option linter.unusedVariables false
set_option maxRecDepth 100000
namespace Mine
variable [ζ : Dead]
noncomputable def topFm (A : Around) (fd : FuncData) (f L : Addr) : Fm where
  A := A.deeper (callEnvC fd L f)
  env := callEnvC fd L f
  stack := [callEnvC fd L f]
  mine := L :: (((cellsFrom (L + 1) fd.scope.names []).filter fun p => (cellsFrom (L + 1) fd.scope.names []).lookup p.1 == some p.2).map (·.2))
  lvl := 1
section
variable {g : G} {A : Around} {s : Shared}
theorem enter0 {fd : FuncData} {f : Addr} {bs : List (Str × V)} {binds : List (Str × Value)} {s' : Shared} (hz : ζ.bad = []) (hB : g.B = s.heap) (hgens : s.gens = #[]) (hos : s.os = g.os) (hA : A.frames = some []) (hg' : A.guards = some []) (hd : A.depth ≤ 310) (hu : A.units ≤ 100)
    (hk : fd.scope.kind = .function) (hg : fd.globals = mainGlobals) (hb : fd.builtins = builtinsNs)
    (hbr : BR s.heap bs binds) (hkind : ∀ x ∈ bs, fd.scope.names.lookup x.1 = some .local ∨ fd.scope.names.lookup x.1 = some .cell)
    (x : InCallC s (callEnvC fd s.heap.objs.size f).locals (bindL (callEnvC fd s.heap.objs.size f).kindOf binds fun _ => none) (callEnvC fd s.heap.objs.size f).cells (bindC (callEnvC fd s.heap.objs.size f).kindOf binds fun _ => none) s') :
    St g (topFm A fd f s.heap.objs.size) (bindAbs bs fun _ => none) (fun _ => none) s' := by
  obtain ⟨⟨⟨h', tk, rfl⟩, hn, kp, _⟩, hc, hap, hab⟩ := x
  have mn : Mono s.heap h' := ⟨fun _ _ _ e => kp _ _ e, .ext kp⟩
  have lt : ∀ b, s.heap.objs.size ≤ b → g.B.get? b = none := fun b n => by rw [hB]; exact Heap.get?_none_of_le n
  have big : ∀ n c, (callEnvC fd s.heap.objs.size f).cells.lookup n = some c → s.heap.objs.size ≤ c := fun n c e => Nat.le_of_lt (hab n c (mem_of_lookup e))
  obtain ⟨oL, esL, epL, eL, dL, _⟩ := id hn
  refine ⟨fun b o e => kp b o (hB ▸ e), (fun b o e => by cases e), ⟨hk, ⟨_, hn, fun y a ha => ?_⟩, fun y c hy => ⟨rfl, _, hc y c hy⟩, fun y z c hy hz => name_of_addr hap (mem_of_lookup hy) (mem_of_lookup hz)⟩, List.mem_cons_self, fun b hb' => ?_, ?_, fun b hb' => ?_, rfl, ?_, hgens, hos, ?_, ⟨hg, hb⟩, fun a ha => by rw [hz] at ha; cases ha⟩
  · obtain ⟨v, rv, w⟩ := bind_loc (kindOf := (callEnvC fd s.heap.objs.size f).kindOf) (mr := fun _ => none) (cm := fun _ => none) (BR.mono mn.tup _ _ hbr) hkind (fun _ _ q => by cases q) y a ha
    refine ⟨v, rv, ?_⟩
    rcases w with w | ⟨w1, w2⟩
    · exact .inl w
    · have : ((cellsFrom (s.heap.objs.size + 1) fd.scope.names []).lookup y).isSome = true := cellsFrom_some _ _ _ (.inl w1)
      obtain ⟨c, ec⟩ := Option.isSome_iff_exists.mp this
      exact .inr ⟨.inl w1, c, ec, w2 ▸ hc y c ec⟩
  · rcases List.mem_cons.mp hb' with rfl | hb'
    · exact ⟨rfl, lt _ (Nat.le_refl _), oL, eL, .inl ⟨_, _, dL⟩⟩
    · obtain ⟨p, hp, rfl⟩ := List.mem_map.mp hb'
      have e := eq_of_beq (List.mem_filter.mp hp).2
      obtain ⟨o, eo, d⟩ := hc p.1 p.2 e
      exact ⟨rfl, lt _ (big p.1 p.2 e), o, eo, .inr ⟨_, d⟩⟩
  · exact ⟨by show fd.scope.kind ≠ .module; rw [hk]; decide, ⟨_, oL, rfl, lt _ (Nat.le_refl _), eL, fun vs q => by rw [dL] at q; cases q⟩, trivial⟩
  · have : b = s.heap.objs.size := by
      have hb2 : b ∈ [s.heap.objs.size] := hb'
      simpa using hb2
    subst this
    exact ⟨rfl, oL, esL, epL, eL, dL⟩
  · exact Around.frames_deeper hA
  · refine ⟨?_, ?_, by show 1 ≤ 100; exact o145, hg'⟩
    · show A.depth + 1 ≤ 310 + 3 * 1; exact o146 hd
    · show A.units + 3 ≤ 100 + 20 * 1; exact o147 hu
theorem c_top {f : Addr} {fd : FuncData} {oc : Value} {od : Option Addr} {osl : Array (Option Value)} {body : List Stmt} {xs : List V} {bs : List (Str × V)} {vs : List Value} {Q : Value → Shared → Prop} {E : Value → Shared → Prop}
    (hz : ζ.bad = []) (hB : g.B = s.heap) (hgens : s.gens = #[]) (hos : s.os = g.os) (hA : A.frames = some []) (hg' : A.guards = some []) (hd : A.depth ≤ 310) (hu : A.units ≤ 100)
    (ho : g.K.lookup f = some ⟨oc, od, .func fd, osl⟩) (hcd : codeIn g.K fd.code fd.qualname = true) (hbody : fd.body = .stmts body) (hg : fd.globals = mainGlobals) (hb : fd.builtins = builtinsNs) (hcl : fd.closure = [])
    (hco : fd.scope.isCoroutine = false) (hgen : fd.scope.isGenerator = false) (hk : fd.scope.kind = .function) (r : Value → List (Str × Value)) (he : ∀ v S, peek g.K S (bindArgs fd ⟨[v], []⟩) = some (r v)) {v : Value} (hbr : BR s.heap bs (r v))
    (hkind : ∀ x ∈ bs, fd.scope.names.lookup x.1 = some .local ∨ fd.scope.names.lookup x.1 = some .cell) (hnames : ∀ x ∈ r v, ∃ y ∈ bs, y.1 = x.1)
    (h : WS g (topFm A fd f s.heap.objs.size) (execs body (topFm A fd f s.heap.objs.size).env) (bindAbs bs fun _ => none) (fun _ => none) (fun fl _ _ => fl.val = .bool true) (fun _ _ _ _ => False))
    (hq : ∀ s', (∀ b o, s.heap.get? b = some o → s'.heap.get? b = some o) → s'.gens = #[] → s'.os = g.os → Q (.bool true) s') : wpAny (model g.prog g.w) A (call (.ref f) [v]) Q E s := by
  have X0 : g.K.In s.heap := hB ▸ g.kin
  refine wpAny_call (codeAny_call_function (by rw [show recursionLimit = 1000 from rfl]; exact o148 hd) (X0 _ _ ho) rfl hco hgen hbody (codeRec_of X0 hcd) ?_)
  refine (Looks.of_peek (M := model g.prog g.w) X0 (he v _)).here ?_
  rw [hcl]
  refine wpAny_newFunctionEnv_cells hk (fun x hx => ?_) fun env he s₂ x => ?_
  · obtain ⟨y, hy, e⟩ := hnames x hx
    rw [← e]
    exact (hkind y hy).imp id fun q => ⟨q, cellsFrom_some _ _ _ (.inl q)⟩
  · subst he
    have x' : InCallC s (callEnvC fd s.heap.objs.size f).locals (bindL (callEnvC fd s.heap.objs.size f).kindOf (r v) fun _ => none) (callEnvC fd s.heap.objs.size f).cells (bindC (callEnvC fd s.heap.objs.size f).kindOf (r v) fun _ => none) s₂ := x
    have kp₂ : ∀ b o, s.heap.get? b = some o → s₂.heap.get? b = some o := x'.toInCall.keep
    have S₂ := enter0 (g := g) hz hB hgens hos hA hg' hd hu hk hg hb hbr hkind x'
    refine ⟨(hB ▸ g.nolim : s.heap.NoLimit).keeps kp₂, codeAny_func ?_⟩
    refine wpAny_mono (h s₂ S₂) (fun fl s₃ yy => yy.elim fun fl' m₃ H₃ r₃ S₃ K₃ q₃ => ?_) fun e s₃ yy => yy.no
    have keep : ∀ b o, s.heap.get? b = some o → s₃.heap.get? b = some o := fun b o e => S₃.base b o (hB ▸ e)
    cases fl' with
    | ret a =>
      obtain ⟨v, rfl, rv⟩ := r₃
      have q₃ : a = .bool true := q₃
      rw [q₃, VR.bool_iff] at rv
      subst rv
      exact hq s₃ keep S₃.gens S₃.os
    | next => cases q₃
    | brk => cases q₃
    | cont => cases q₃
end
end Mine
end
section
open PySem PySem.W PySem.Calls PyProof.Rows PySem.SeqAt
set_option linter.unusedSectionVars false
set_option linter.unusedVariables false
set_option maxRecDepth 100000
namespace Mine
variable [ζ : Dead]
noncomputable def topF0 (A : Around) (fd : FuncData) (f L : Addr) : Fm where
  A := A
  env := callEnvC fd L f
  stack := []
  mine := []
  lvl := 0
theorem top_frame {A : Around} {fd : FuncData} {f L : Addr} : FrameOf (topFm A fd f L) (topF0 A fd f L) fd.scope := by
  refine ⟨rfl, rfl, rfl, fun y hy => ?_, rfl⟩
  have : ((cellsFrom (L + 1) fd.scope.names []).lookup y).isSome = true := cellsFrom_some _ _ _ (.inl hy)
  obtain ⟨c, ec⟩ := Option.isSome_iff_exists.mp this
  exact ⟨c, ec, List.mem_cons_of_mem _ (List.mem_map.mpr ⟨(y, c), List.mem_filter.mpr ⟨mem_of_lookup ec, by rw [ec]; simp⟩, rfl⟩)⟩
section
variable {g : G} {A : Around} {s : Shared}
theorem c_topF {f : Addr} {fd : FuncData} {oc : Value} {od : Option Addr} {osl : Array (Option Value)} {body : List Stmt} {bs : List (Str × V)} {Q : Value → Shared → Prop} {E : Value → Shared → Prop}
    (hz : ζ.bad = []) (hB : g.B = s.heap) (hgens : s.gens = #[]) (hos : s.os = g.os) (hA : A.frames = some []) (hg' : A.guards = some []) (hd : A.depth ≤ 310) (hu : A.units ≤ 100)
    (ho : g.K.lookup f = some ⟨oc, od, .func fd, osl⟩) (hcd : codeIn g.K fd.code fd.qualname = true) (hbody : fd.body = .stmts body) (hg : fd.globals = mainGlobals) (hb : fd.builtins = builtinsNs) (hcl : fd.closure = [])
    (hco : fd.scope.isCoroutine = false) (hgen : fd.scope.isGenerator = false) (hk : fd.scope.kind = .function) (r : Value → List (Str × Value)) (he : ∀ v S, peek g.K S (bindArgs fd ⟨[v], []⟩) = some (r v)) {v : Value} (hbr : BR s.heap bs (r v))
    (hkind : ∀ x ∈ bs, fd.scope.names.lookup x.1 = some .local ∨ fd.scope.names.lookup x.1 = some .cell) (hnames : ∀ x ∈ r v, ∃ y ∈ bs, y.1 = x.1)
    (h : ∀ F' F, F.lvl = 0 → F.A = A → FrameOf F' F fd.scope → WS g F' (execs body F'.env) (bindAbs bs fun _ => none) (fun _ => none) (fun fl _ _ => fl.val = .bool true) (fun _ _ _ _ => False))
    (hq : ∀ s', (∀ b o, s.heap.get? b = some o → s'.heap.get? b = some o) → s'.gens = #[] → s'.os = g.os → Q (.bool true) s') : wpAny (model g.prog g.w) A (call (.ref f) [v]) Q E s :=
  c_top (xs := []) (vs := []) hz hB hgens hos hA hg' hd hu ho hcd hbody hg hb hcl hco hgen hk r he hbr hkind hnames (h _ (topF0 A fd f s.heap.objs.size) rfl rfl top_frame) hq
end
end Mine
end
section
open PySem PySem.W PySem.Calls PyProof.Rows PySem.SeqAt
set_option linter.unusedSectionVars false
set_option linter.unusedVariables false
set_option maxRecDepth 100000
namespace Mine
variable [ζ : Dead]
noncomputable def LB (g : G) (a : Addr) (ns : List Int) : Prop := ∃ vs : List Value, g.B.IsList a vs.toArray ∧ IntsAre vs ns
section
variable {g : G} {F : Fm} {m : Loc} {H : AH} {s : Shared} {X : Value → List V → Loc → AH → Prop} {Q : V → Loc → AH → Prop} {l : Addr} {ns : List Int}
theorem LB.at (S : St g F m H s) (x : LB g l ns) : ∃ vs o ep, s.heap.get? l = some o ∧ o.cls = .type "list" ∧ o.data = .seq vs.toArray ep ∧ VRs s.heap (nums ns) vs := by
  obtain ⟨vs, ⟨o, e, c, ep, d⟩, i⟩ := x
  exact ⟨vs, o, ep, S.base _ _ e, c, d, are_nums i⟩
end
end Mine
end
section
open PySem PySem.W PySem.Calls PyProof.Rows PySem.SeqAt
set_option linter.unusedSectionVars false
set_option linter.unusedVariables false
set_option maxRecDepth 100000
namespace Mine
variable [ζ : Dead]
section
variable {g : G} {F : Fm} {m : Loc} {H : AH} {s : Shared} {X : Value → List V → Loc → AH → Prop} {Q : V → Loc → AH → Prop}
end
end Mine
end
section
open PySem PySem.W PySem.Calls PyProof.Rows PySem.SeqAt
set_option linter.unusedSectionVars false
set_option linter.unusedVariables false
set_option maxRecDepth 100000
namespace Mine
variable [ζ : Dead]
theorem lookup_relabel_kind {env : Env} {k0 : NameKind} (hk : k0 ≠ .free) : ∀ {names : List (Str × NameKind)} {x : Str}, names.lookup x = some k0 →
    (names.map fun (n, k) => if (k == NameKind.free && env.scope.kind == .function && env.kindOf n == some .cell) then (n, NameKind.cell) else (n, k)).lookup x = some k0
  | [], _, h => by simp at h
  | (n, k) :: r, x, h => by
    have ih := @lookup_relabel_kind env k0 hk r x
    show List.lookup x ((if (k == NameKind.free && env.scope.kind == .function && env.kindOf n == some .cell) = true then (n, NameKind.cell) else (n, k)) :: _) = _
    rw [List.lookup_cons] at h
    by_cases q : x = n
    · subst q
      rw [beq_self_eq_true] at h
      cases h
      rw [if_neg (by simp [hk])]
      rw [List.lookup_cons, beq_self_eq_true]
    · rw [beq_eq_false_iff_ne.mpr q] at h
      split <;> rw [List.lookup_cons, beq_eq_false_iff_ne.mpr q] <;> exact ih h
theorem CompOf.kindOf {Fc F : Fm} {scope : Scope} (x : CompOf Fc F scope) {n : Str} {k : NameKind} (hk : k ≠ .free) (h : scope.names.lookup n = some k) : Fc.env.kindOf n = some k := by
  unfold Env.kindOf
  rw [x.sc]
  exact lookup_relabel_kind hk h
theorem CompOf.glo {Fc F : Fm} {scope : Scope} (x : CompOf Fc F scope) {n : Str} (h : scope.names.lookup n = some .globalImplicit) : Fc.env.kindOf n = some .globalImplicit := x.kindOf (by decide) h
noncomputable def ownN (scope : Scope) (x : Str) : Bool := match scope.names.lookup x with | some .local => true | some .cell => true | _ => false
theorem ownN_or {scope : Scope} {x : Str} (h : ownN scope x = true) : scope.names.lookup x = some .local ∨ scope.names.lookup x = some .cell := by
  unfold ownN at h
  split at h
  · exact .inl ‹_›
  · exact .inr ‹_›
  · cases h
theorem CompOf.loc {Fc F : Fm} {scope : Scope} (x : CompOf Fc F scope) {n : Str} (h : ownN scope n = true) : Stores Fc n := by
  rcases ownN_or h with h | h
  · exact .inl (x.kindOf (by decide) h)
  · exact .inr ⟨x.kindOf (by decide) h, x.cel n h⟩
noncomputable def headOk (outer names : List (Str × NameKind)) : Bool := names.all fun y => (y.2 != .cell || names.lookup y.1 == some .cell) && (y.2 != .local || names.lookup y.1 == some .local) && (y.2 != .free || (outer.lookup y.1 == some .cell && !(y.1 == ("__classdict__" : Str))))
theorem mem_of_lookup' {α β : Type} [BEq α] [LawfulBEq α] : ∀ {l : List (α × β)} {a : α} {b : β}, l.lookup a = some b → (a, b) ∈ l
  | [], _, _, h => by simp at h
  | (x, y) :: r, a, b, h => by
    rw [List.lookup_cons] at h
    by_cases q : a = x
    · subst q; rw [beq_self_eq_true] at h; cases h; exact List.mem_cons_self
    · rw [beq_eq_false_iff_ne.mpr q] at h; exact List.mem_cons_of_mem _ (mem_of_lookup' h)
theorem CompHead.of {F' F : Fm} {sc scope : Scope} (hF : FrameOf F' F sc) (hk : scope.kind = .function) (h : headOk sc.names scope.names = true) : CompHead F' scope := by
  have h' := List.all_eq_true.mp h
  have fr : ∀ x, (x, NameKind.free) ∈ scope.names → sc.names.lookup x = some .cell ∧ (x == ("__classdict__" : Str)) = false := fun x hx => by
    have := h' _ hx
    simp only [Bool.and_eq_true, Bool.or_eq_true, Bool.not_eq_true', beq_iff_eq] at this
    rcases this.2 with z | z
    · exact absurd z (by decide)
    · exact z
  refine ⟨hk, fun y hy q => ?_, fun x hx q => ?_, fun x hx => ?_, fun n hn => ?_⟩
  · have := h' y hy
    rw [q] at this
    simpa using this
  · have := h' x hx
    rw [q] at this
    simpa using this
  · obtain ⟨z1, z2⟩ := fr x (mem_of_lookup' hx)
    exact ⟨.inl ((hF.kindOf x).trans z1), z2⟩
  · obtain ⟨c, hc, _⟩ := hF.cells n (fr n hn).1
    exact ⟨c, hc⟩
theorem CompOf.hh {Fc F : Fm} {scope : Scope} (x : CompOf Fc F scope) (h : F.A.handled = none) : Fc.A.handled = none := by rw [x.A]; exact h
theorem CompOf.st {Fc F : Fm} {scope : Scope} (x : CompOf Fc F scope) (h : F.stack ≠ []) : Fc.stack ≠ [] := by rw [x.stack]; exact h
noncomputable def Sees (scope : Scope) (m m' : Loc) : Prop := ∀ y, scope.names.lookup y = some .free → m' y = m y
theorem Sees.start (scope : Scope) (m : Loc) : Sees scope m (compLoc scope m) := fun y h => if_pos h
theorem Sees.set {scope : Scope} {m m' : Loc} (s : Sees scope m m') {x : Str} {v : V} (h : ownN scope x = true) : Sees scope m (setL m' x v) := fun y hy => by
  unfold setL
  rw [if_neg (fun q => by subst q; rcases ownN_or h with h | h <;> rw [h] at hy <;> cases hy)]
  exact s y hy
theorem setL_self (m : Loc) (x : Str) (v : V) : setL m x v x = some v := if_pos rfl
theorem setL_ne (m : Loc) {x y : Str} (v : V) (h : y ≠ x) : setL m x v y = m y := if_neg h
section
variable {g : G} {F : Fm} {m : Loc} {H : AH} {s : Shared} {X : Value → List V → Loc → AH → Prop}
theorem s_setcomp {elt target iter : Expr} {ifs : List Expr} {tail : Fm → Addr → Sem Unit} {rest : List Comprehension} {scope : Scope} {pos spos : Pos} {x : Str} {px : Pos} {Q : Fl → Loc → AH → Prop}
    (hsw : swapsWith (.ListComp elt (⟨target, iter, ifs, 0⟩ :: rest) scope pos) (some (.Name x px)) spos.line F.env = pure true ∨ swapsWith (.ListComp elt (⟨target, iter, ifs, 0⟩ :: rest) scope pos) (some (.Name x px)) spos.line F.env = pure false) (hx : Stores F x)
    (hd : CompHead F scope) (hfs : ∀ x, foldedSetIterable iter F.env x = pure x) (hh : F.A.handled = none) (hs : F.stack ≠ [])
    (hct : ∀ Fc acc it, compTurn (.ListComp elt (⟨target, iter, ifs, 0⟩ :: rest) scope pos) 0 it (.ref acc) Fc.env = turnTree target iter ifs it (tail Fc acc) (.ListComp elt (⟨target, iter, ifs, 0⟩ :: rest) scope pos) 0 (.ref acc) Fc.env)
    (h : WE g F (eval iter F.env) m H (fun a m H => Walk0 g F scope target ifs tail a m H (fun ys H => ∀ b, H b = none → Q .next (setL m x (.ref b)) (put H b (.list ys))) (fun c as _ H => X c as m H)) X) :
    WS g F (exec (.Assign [.Name x px] (.ListComp elt (⟨target, iter, ifs, 0⟩ :: rest) scope pos) spos) F.env) m H Q X := by
  rcases hsw with q | q
  · exact s_comp q hx hd hfs hh hs hct h
  · exact s_assign hx q (e_comp hd hfs hh hs hct h)
theorem w0_gen {α : Type} {scope : Scope} {target : Expr} {ifs : List Expr} {tail : Fm → Addr → Sem Unit} {a : V} {xs : List α} {C : AH → Prop} {Q : List V → AH → Prop} {X' : Value → List V → Loc → AH → Prop} {valN : Nat → V} (val : α → V) (f : α → Option V) (P : AH → Prop) {tg : Expr → Bool}
    (I : IterableT g tg a xs.length valN C) (htg : tg target = true) (hval : ∀ i (h : i < xs.length), valN i = val xs[i]) (hP : ∀ H', P H' → C H') (p0 : P H)
    (ht : ∀ Fc acc, CompOf Fc F scope → ∀ x ∈ xs, ∀ ys : List V, ys.length ≤ xs.length → ∀ m' H', Sees scope m m' → P H' → ∀ J : List V → Loc → AH → Prop, (∀ m4 H4, P H4 → Sees scope m m4 → J (ys ++ (f x).toList) m4 H4) →
      WA g Fc target (val x) m' H' (fun m2 H2 => WB g Fc (testsOf ifs Fc.env) m2 H2 (fun ok m3 H3 => if ok then WAcc g Fc acc (tail Fc acc) ys m3 H3 J X' else J ys m3 H3) X') X')
    (hq : ∀ H', P H' → Q (xs.filterMap f) H') : Walk0 g F scope target ifs tail a m H Q X' := by
  refine ⟨tg, xs.length, valN, C, fun i ys m' H' => P H' ∧ ys = (xs.take i).filterMap f ∧ Sees scope m m', I, htg, fun i ys m' H' e => hP _ e.1, ⟨p0, rfl, .start _ _⟩, fun Fc acc hF i ys m' H' hi qq1 => qq1.elim fun e1 qq2 => qq2.elim fun e2 e3 => ?_, fun ys m' H' qq3 => qq3.elim fun e1 qq4 => qq4.elim fun e2 _ => ?_⟩
  · rw [hval i hi]
    have e4 : (xs.take (i + 1)).filterMap f = (xs.take i).filterMap f ++ (f xs[i]).toList := by
      rw [List.take_add_one, List.getElem?_eq_getElem hi, List.filterMap_append]
      show _ ++ List.filterMap f [xs[i]] = _
      rw [List.filterMap_cons, List.filterMap_nil]
      cases f xs[i] <;> rfl
    have hl : ys.length ≤ xs.length := by rw [e2]; exact Nat.le_trans (List.length_filterMap_le f _) (List.length_take_le' _ _)
    exact ht Fc acc hF xs[i] (List.getElem_mem hi) ys hl m' H' e3 e1 _ fun m4 H4 p4 s4 => ⟨p4, by rw [e4, e2], s4⟩
  · rw [List.take_of_length_le (Nat.le_refl _)] at e2
    subst e2
    exact hq _ e1
end
end Mine
end
section
set_option maxRecDepth 100000
set_option maxHeartbeats 8000000
namespace Mine
open PySem PySem.W PyProof.Rows
section
local macro_rules | `(tactic| o_head $_) => `(tactic| assumption)
theorem kx (h : PySem.Challenge.rw_dv0015_03.row.Holds) : PySem.Challenge.rw_dv0015_03.row.Holds := by k_head
end
noncomputable abbrev pw : Program := PySem.Challenge.rw_dv0015_03.row.prog
noncomputable def ks : List Addr := [2,3,15,17,18,20,21,29,30,32,33,35,36,37,39,40,41,42,43,46,53,54,55,56,66,67,69,70,72,73,74,76,77,79,80,81,83,84,86,87,88,91,92,93,95,96,98,99,100,102,103,105,106,107,109,110,112,113,114,116,117,119,120,121,123,124,126,127,128,130,131,133,134,135,136,137,138,139,142,144,145,147,148,149,152,153,154,156,157,159,160,161,164,165,166,169,170,171,174,175]
theorem ks_is (P : Params) : ks = (kx.heap_1 P).map (·.1) := by kernel_rfl
noncomputable def qv : Program := view pw [0, 2, 3, 4, 5, 6, 8, 9, 10, 11, 12, 13]
noncomputable def hk : Hook := kHook kx.heap_1 ks ks_is
noncomputable def xt (s : Shared) : Bool := xlAt qv [] s && recOk (RowW.records PySem.Challenge.rw_dv0015_03.row.toRowW) s
theorem left : LeftO pw qv ["_NodeInfo"] xt hk.obs hk.val 2556 := fun w => by
  unfold openEnds topFrom
  rw [PySem.W.Fast.te14082659384304107361, PySem.W.Fast.te14364793385576792824, PySem.W.Fast.te4187177175401517315]
  kernel_rfl
theorem said : PySem.Challenge.rw_dv0015_03.wellSaid = true := by
  rw [PySem.W.Fast.te9446332074065402090]
  kernel_rfl
end Mine
end
section
open PySem PySem.W PySem.Calls PyProof.Rows PySem.SeqAt
set_option linter.unusedSectionVars false
set_option linter.unusedVariables false
set_option maxRecDepth 100000
namespace Mine
variable [ζ : Dead]
structure Gd (g : G) : Prop where
  K : g.K = Mine.kx.heap_1 g.w.params
  ve : g.mb "ValueError" = some (.type "ValueError")
  bool : g.mb "bool" = some (.type "bool")
  len : g.mb "len" = some (.builtin "len")
  tuple : g.mb "tuple" = some (.type "tuple")
  iter : g.mb "iter" = some (.builtin "iter")
  set : g.mb "set" = some (.type "set")
  stop : g.mb "StopIteration" = some (.type "StopIteration")
  range : g.mb "range" = some (.type "range")
  list : g.mb "list" = some (.type "list")
  min : g.mb "min" = some (.builtin "min")
  max : g.mb "max" = some (.builtin "max")
  sum : g.mb "sum" = some (.builtin "sum")
  sorted : g.mb "sorted" = some (.builtin "sorted")
  ty : g.mb "type" = some (.type "type")
  enum : g.mb "enumerate" = some (.type "enumerate")
  zip : g.mb "zip" = some (.type "zip")
  own : OwnCls "CycleError" 55 [.type "ValueError", .type "Exception", .type "BaseException", .type "object"] "ValueError.__new__" g.mg g.B
section
variable {g : G}
theorem Gd.nb (D : Gd g) {x : Str} {r : Option (Option Value)} (h : nsIn (Mine.kx.heap_1 g.w.params) mainGlobals x = r) : nsIn g.K mainGlobals x = r := by rw [D.K]; exact h
theorem Gd.kp (D : Gd g) {f : Value} (h : keepIn (Mine.kx.heap_1 g.w.params) f = true) : Kp g f := .own (by rw [D.K]; exact h)
theorem Gd.lk (D : Gd g) {f : Addr} {r : Option Obj} (h : (Mine.kx.heap_1 g.w.params).lookup f = r) : g.K.lookup f = r := by rw [D.K]; exact h
theorem Gd.cd (D : Gd g) {c : Value} {q : Str} (h : codeIn (Mine.kx.heap_1 g.w.params) c q = true) : codeIn g.K c q = true := by rw [D.K]; exact h
end
theorem at_slot (p : Params) : AttrS (Mine.kx.heap_1 p) 40 "node" 41 0 ∧ AttrS (Mine.kx.heap_1 p) 40 "npredecessors" 42 1 ∧ AttrS (Mine.kx.heap_1 p) 40 "successors" 43 2 :=
  ⟨⟨rfl, rfl, rfl, rfl, rfl, rfl, rfl, rfl, rfl, rfl, by decide⟩, ⟨rfl, rfl, rfl, rfl, rfl, rfl, rfl, rfl, rfl, rfl, by decide⟩, ⟨rfl, rfl, rfl, rfl, rfl, rfl, rfl, rfl, rfl, rfl, by decide⟩⟩
theorem at_ns (p : Params) : AttrD (Mine.kx.heap_1 p) 137 "_node2info" ∧ AttrD (Mine.kx.heap_1 p) 137 "_ready_nodes" ∧ AttrD (Mine.kx.heap_1 p) 137 "_npassedout" ∧ AttrD (Mine.kx.heap_1 p) 137 "_nfinished" :=
  ⟨⟨rfl, rfl, ⟨_, rfl, rfl⟩, rfl, rfl, rfl⟩, ⟨rfl, rfl, ⟨_, rfl, rfl⟩, rfl, rfl, rfl⟩, ⟨rfl, rfl, ⟨_, rfl, rfl⟩, rfl, rfl, rfl⟩, ⟨rfl, rfl, ⟨_, rfl, rfl⟩, rfl, rfl, rfl⟩⟩
end Mine
end
section
open PySem PySem.W PySem.Calls PyProof.Rows PySem.SeqAt
set_option linter.unusedSectionVars false
set_option linter.unusedVariables false
set_option maxRecDepth 100000
namespace Mine
variable [ζ : Dead]
section
variable {g : G} {F : Fm} {m : Loc} {H : AH} {X : Value → List V → Loc → AH → Prop} {Q : V → Loc → AH → Prop} {σ : Srt} {B : List (Addr × O)}
end
end Mine
end
section
open PySem PySem.W PySem.Calls PyProof.Rows PySem.SeqAt
set_option linter.unusedSectionVars false
set_option linter.unusedVariables false
set_option maxRecDepth 100000
namespace Mine
variable [ζ : Dead]
theorem sat2 {H : AH} {L : List (Addr × O)} {a b : Addr} {o o' : O} (s : Sat H ((a, o) :: (b, o') :: L)) : Sat H ((b, o') :: (a, o) :: L) := s.perm (List.Perm.swap ..)
section
variable {g : G} {F : Fm} {m : Loc} {H : AH} {X : Value → List V → Loc → AH → Prop} {Q : V → Loc → AH → Prop} {σ : Srt} {B : List (Addr × O)}
theorem new_srt_spec (D : Gd g) (hl : F.lvl < 90) (s : Sat H B) (h : ∀ (σ : Srt) (H' : AH), σ.abs = ⟨[], none, 0, 0⟩ → Sat H' (σ.lay ++ B) → Q (.ref σ.x) m H') : WCode g F (.ref 137) [] m H Q X := by
  have A := at_ns g.w.params
  rw [← D.K] at A
  refine c_inst (by rw [D.K]; rfl) (fI := 73) (by rw [D.K]; rfl) (by rw [D.K]; rfl) (by exact o149 hl) fun A' hA x dx hx hdx hne => ?_
  refine d_code (D.lk rfl) (D.cd rfl) rfl rfl rfl rfl rfl rfl rfl (show F.lvl + 1 < 100 by exact o150 hl) (binds_peek (fun vs => [("self", vs.getD 0 .none), ("graph", .none)]) (fun vs S hv => ?_) (fun h vs r => ?_)) (bs := [("self", .ref x), ("graph", .none)]) rfl fun F' hF => ?_
  · obtain ⟨v, rfl⟩ := len1 hv; rw [D.K]; rfl
  · obtain ⟨v, r', rfl, rv, rr⟩ := r.uncons; exact ⟨v, _, rfl, rv, .none, [], rfl, .none', rfl⟩
  have s1 : Sat (put (put H dx (.ns [])) x (.inst 137 dx)) ((x, .inst 137 dx) :: (dx, .ns []) :: B) := (s.new hdx).new (by rw [put_ne _ _ hne.symm]; exact hx)
  refine s_cons (s_assign1 rfl rfl rfl (e_dict0 fun d hd => a_attr (e_name rfl ?_)))
  have s2 := s1.new (o := .dict [] 0) hd
  refine x_set A.1 s2.at1 s2.at2 (by decide) ?_
  have s3 := s2.set2 (.ns [("_node2info", .ref d)])
  refine s_cons (s_assign1 rfl rfl rfl (e_none (a_attr (e_name rfl (x_set A.2.1 s3.at1 s3.at2 (Nat.le_of_ble_eq_true rfl) ?_)))))
  have s4 := s3.set2 (.ns [("_node2info", .ref d), ("_ready_nodes", .none)])
  refine s_cons (s_assign1 rfl rfl rfl (e_int (a_attr (e_name rfl (x_set A.2.2.1 s4.at1 s4.at2 (Nat.le_of_ble_eq_true rfl) ?_)))))
  have s5 := s4.set2 (.ns [("_node2info", .ref d), ("_ready_nodes", .none), ("_npassedout", .int 0)])
  refine s_cons (s_assign1 rfl rfl rfl (e_int (a_attr (e_name rfl (x_set A.2.2.2 s5.at1 s5.at2 (Nat.le_of_ble_eq_true rfl) ?_)))))
  have s6 := s5.set2 (.ns [("_node2info", .ref d), ("_ready_nodes", .none), ("_npassedout", .int 0), ("_nfinished", .int 0)])
  refine s_cons (s_if (t_cmp rfl (e_name rfl (e_none (o_isnn (fun _ => by simp) (tr_bool (s_nil (s_nil ⟨rfl, ?_⟩))))))))
  refine h ⟨x, dx, d, 0, [], none, 0, 0⟩ _ rfl ?_
  have p : ((d, O.dict [] 0) :: (x, O.inst 137 dx) :: (dx, O.ns [("_node2info", .ref d), ("_ready_nodes", .none), ("_npassedout", .int 0), ("_nfinished", .int 0)]) :: B).Perm ((⟨x, dx, d, 0, [], none, 0, 0⟩ : Srt).lay ++ B) := by
    show List.Perm _ ((x, O.inst 137 dx) :: (dx, O.ns [("_node2info", .ref d), ("_ready_nodes", .none), ("_npassedout", .int 0), ("_nfinished", .int 0)]) :: (d, O.dict [] 0) :: B)
    exact (List.Perm.swap ..).trans (List.Perm.cons _ (List.Perm.swap ..))
  exact s6.perm p
end
end Mine
end
section
open PySem PySem.W PySem.Calls PyProof.Rows PySem.SeqAt
set_option linter.unusedSectionVars false
set_option linter.unusedVariables false
set_option maxRecDepth 100000
namespace Mine
variable [ζ : Dead]
section
variable {g : G} {F : Fm} {m : Loc} {H : AH} {X : Value → List V → Loc → AH → Prop} {Q : V → Loc → AH → Prop} {σ : Srt} {B : List (Addr × O)}
theorem new_node_spec (D : Gd g) (hl : F.lvl < 90) {k : Int} (s : Sat H B) (h : ∀ na la H', Sat H' ((na, .node 40 [cd k, .int 0, .ref la]) :: (la, .list []) :: B) → Q (.ref na) m H') : WCode g F (.ref 40) [cd k] m H Q X := by
  have A := at_slot g.w.params
  rw [← D.K] at A
  refine c_node (by rw [D.K]; rfl) (fI := 36) (by rw [D.K]; rfl) (by rw [D.K]; rfl) (by exact o149 hl) fun A' hA x hx => ?_
  refine d_code (D.lk rfl) (D.cd rfl) rfl rfl rfl rfl rfl rfl rfl (show F.lvl + 1 < 100 by exact o150 hl) (binds_peek (fun vs => [("self", vs.getD 0 .none), ("node", vs.getD 1 .none)]) (fun vs S hv => ?_) (fun h vs r => ?_)) (bs := [("self", .ref x), ("node", cd k)]) rfl fun F' hF => ?_
  · obtain ⟨v, u, rfl⟩ := len2 hv; rw [D.K]; rfl
  · obtain ⟨v, r', rfl, rv, rr⟩ := r.uncons; obtain ⟨u, r', rfl, ru, rr⟩ := rr.uncons; exact ⟨v, _, rfl, rv, u, [], rfl, ru, rfl⟩
  have s1 : Sat (put H x (.node 40 [])) ((x, .node 40 []) :: B) := s.new hx
  refine s_cons (s_assign1 rfl rfl rfl (e_name rfl (a_attr (e_name rfl (x_slotset A.1 s1.at0 (by decide) ?_)))))
  have s2 := s1.set (.node 40 [cd k])
  refine s_cons (s_assign1 rfl rfl rfl (e_int (a_attr (e_name rfl (x_slotset A.2.1 s2.at0 (Nat.le_of_ble_eq_true rfl) ?_)))))
  have s3 := s2.set (.node 40 [cd k, .int 0])
  refine s_cons (s_assign1 rfl rfl rfl (e_list (l_nil ⟨by decide, fun la hla => a_attr (e_name rfl ?_)⟩)))
  have s4 := s3.new (o := .list []) hla
  refine x_slotset A.2.2 s4.at1 (Nat.le_of_ble_eq_true rfl) ?_
  have s5 := s4.set1 (.node 40 [cd k, .int 0, .ref la])
  exact s_nil ⟨rfl, h x la _ (sat2 s5)⟩
noncomputable def findRow (rows : List Row) (k : Int) : Option Row := rows.find? fun r => cl r.k = cl k
theorem dget_rows (rows : List Row) (k : Int) : dget (dictOfRows rows) k = (findRow rows k).map fun r => .ref r.na := by
  unfold dget dictOfRows findRow
  induction rows with
  | nil => rfl
  | cons r rows ih =>
    rw [List.map_cons, List.find?_cons, List.find?_cons]
    by_cases q : cl r.k = cl k
    · simp [q]
    · simp only [q, decide_false]; exact ih
theorem findRow_some {rows : List Row} {k : Int} {r : Row} (h : findRow rows k = some r) : r ∈ rows ∧ cl r.k = cl k := ⟨List.mem_of_find?_eq_some h, by simpa using List.find?_some h⟩
theorem findRow_none {rows : List Row} {k : Int} (h : findRow rows k = none) : cl k ∉ rows.map (cl ·.k) := fun q => by
  obtain ⟨r, hr, e⟩ := List.mem_map.mp q
  have := List.find?_eq_none.mp h r hr
  simp [e] at this
theorem findRow_mem {rows : List Row} {k : Int} (h : cl k ∈ rows.map (cl ·.k)) : ∃ r, findRow rows k = some r := by
  cases q : findRow rows k with
  | some r => exact ⟨r, rfl⟩
  | none => exact absurd h (findRow_none q)
theorem gni_spec (D : Gd g) (hl : F.lvl < 80) {k : Int} (s : Sat H (σ.lay ++ B)) (hz : σ.rows.length < 1000)
    (h : ∀ (σ' : Srt) (r : Row) (H' : AH), σ'.x = σ.x → σ'.abs = σ.abs.ens k → σ'.rd = σ.rd → r ∈ σ'.rows → cl r.k = cl k → Sat H' (σ'.lay ++ B) → Q (.ref r.na) m H') : WCode g F (.ref 80) [.ref σ.x, cd k] m H Q X := by
  have A := at_ns g.w.params
  rw [← D.K] at A
  refine d_code (D.lk rfl) (D.cd rfl) rfl rfl rfl rfl rfl rfl rfl (lv100 hl rfl) (binds_peek (fun vs => [("self", vs.getD 0 .none), ("node", vs.getD 1 .none)]) (fun vs S hv => ?_) (fun h vs r => ?_)) (bs := [("self", .ref σ.x), ("node", cd k)]) rfl fun F' hF => ?_
  · obtain ⟨v, u, rfl⟩ := len2 hv; rw [D.K]; rfl
  · obtain ⟨v, r', rfl, rv, rr⟩ := r.uncons; obtain ⟨u, r', rfl, ru, rr⟩ := rr.uncons; exact ⟨v, _, rfl, rv, u, [], rfl, ru, rfl⟩
  refine s_cons (s_if (t_cmp rfl (e_walrus (hF.loc rfl) (e_meth (e_attr (e_name rfl (x_get A.1 (Srt.inst s) (Srt.ns s) (x := .ref σ.d) rfl rfl (me_ok (meth_dict (Srt.dict s) PySem.F.slot_dict_get PySem.F.type_dict_get) <| cw_plain (.blt _) (l_cons (e_name rfl (l_nil (c_dget (Srt.dict s) ?_))))))))))))
  rw [dget_rows]
  cases q : findRow σ.rows k with
  | some r =>
    obtain ⟨hr, hk⟩ := findRow_some q
    refine e_none (o_isn (fun _ => by simp) (tr_bool (s_nil ?_)))
    refine s_cons (s_ret (e_name rfl (h σ r H rfl ?_ rfl hr hk s)))
    unfold PS.ens
    rw [if_pos (by rw [Srt.names_abs]; rw [← hk]; exact List.mem_map_of_mem (f := fun r : Row => cl r.k) hr)]
  | none =>
    refine e_none (o_isn (fun _ => by simp) (tr_bool ?_))
    refine s_cons (s_assign2 rfl rfl (e_call (e_glob (hF.glo rfl) (D.nb rfl) (fun _ => .cst' _) (fn_ok <| cw_plain (D.kp rfl) (l_cons (e_name rfl (l_nil (WCode.call (new_node_spec D (hF.lv hl rfl) s fun na la H' s' => ?_)))))))))
    have sx := s'.tail (A := [_, _])
    refine a_sub (e_attr (e_name rfl (x_get A.1 (Srt.inst sx) (Srt.ns sx) (x := .ref σ.d) rfl rfl (e_name rfl (o_dset (Srt.dict sx) (by unfold dictOfRows; rw [List.length_map]; exact o151 hz) fun ep' => ?_)))))
    have e : dput (dictOfRows σ.rows) k (.ref na) = dictOfRows (σ.rows ++ [⟨k, na, 0, la, []⟩]) := by
      unfold dput
      have hn := findRow_none q
      rw [if_neg]
      · unfold dictOfRows; simp
      · intro z
        rw [List.any_eq_true] at z
        obtain ⟨p, hp, hpk⟩ := z
        unfold dictOfRows at hp
        obtain ⟨r, hr, rfl⟩ := List.mem_map.mp hp
        exact hn (by rw [← of_decide_eq_true hpk]; exact List.mem_map_of_mem (f := fun r : Row => cl r.k) hr)
    rw [e]
    have sf := Srt.newRow (ep := ep') sx s'
    refine a_name (hF.loc rfl) (s_nil (s_cons (s_ret (e_name rfl (h ⟨σ.x, σ.dx, σ.d, ep', σ.rows ++ [⟨k, na, 0, la, []⟩], σ.rd, σ.po, σ.nf⟩ ⟨k, na, 0, la, []⟩ _ rfl ?_ rfl (List.mem_append_right _ (.head _)) rfl sf)))))
    unfold PS.ens
    rw [if_neg (by rw [Srt.names_abs]; exact findRow_none q)]
    unfold Srt.abs
    simp [Row.abs]
end
end Mine
end
section
open PySem PySem.W PySem.Calls PyProof.Rows PySem.SeqAt
set_option linter.unusedSectionVars false
set_option linter.unusedVariables false
set_option maxRecDepth 100000
namespace Mine
variable [ζ : Dead]
theorem PS.names_upd (p : PS) (k : Int) (f : PRow → PRow) (h : ∀ r, (f r).k = r.k) : (p.upd k f).names = p.names := by
  unfold PS.upd PS.names
  rw [List.map_map]
  refine List.map_congr_left fun r _ => ?_
  show cl (if cl r.k = cl k then f r else r).k = cl r.k
  split
  · exact congrArg cl (h r)
  · rfl
theorem PS.names_ens (p : PS) (k : Int) : (p.ens k).names = if cl k ∈ p.names then p.names else p.names ++ [cl k] := by
  unfold PS.ens
  split
  · rfl
  · unfold PS.names; simp
theorem PS.nodup_ens {p : PS} (h : p.names.Nodup) (k : Int) : (p.ens k).names.Nodup := by
  rw [PS.names_ens]
  split
  · exact h
  · rename_i q
    rw [List.nodup_append]
    exact ⟨h, by simp, fun a ha b hb => by simp at hb; subst hb; intro e; subst e; exact q ha⟩
noncomputable def PS.fits (p : PS) (n : Nat) : Prop := p.rows.length ≤ n ∧ ∀ r ∈ p.rows, r.su.length ≤ n
theorem PS.fits_ens {p : PS} {n : Nat} (h : p.fits n) (k : Int) : (p.ens k).fits (n + 1) := by
  unfold PS.ens
  split
  · exact ⟨Nat.le_succ_of_le h.1, fun r hr => Nat.le_succ_of_le (h.2 r hr)⟩
  · refine ⟨by simp; exact h.1, fun r hr => ?_⟩
    rcases List.mem_append.mp hr with hr | hr
    · exact Nat.le_succ_of_le (h.2 r hr)
    · simp at hr; subst hr; simp
theorem PS.fits_upd {p : PS} {n k : Nat} (h : p.fits n) (q : Int) (f : PRow → PRow) (hf : ∀ r, (f r).su.length ≤ r.su.length + k) : (p.upd q f).fits (n + k) := by
  unfold PS.upd
  refine ⟨by simp; have := h.1; exact o152 this, fun r hr => ?_⟩
  obtain ⟨r', hr', rfl⟩ := List.mem_map.mp hr
  have := h.2 r' hr'
  split
  · have := hf r'; exact o334 this (by assumption)
  · exact o420 this
theorem Srt.fits_rows {σ : Srt} {n : Nat} (h : σ.abs.fits n) : σ.rows.length ≤ n ∧ ∀ r ∈ σ.rows, r.su.length ≤ n := by
  refine ⟨by have := h.1; unfold Srt.abs at this; simpa using this, fun r hr => h.2 r.abs ?_⟩
  unfold Srt.abs; exact List.mem_map_of_mem hr
theorem PS.upd_cl (p : PS) {k k' : Int} (h : cl k = cl k') (f : PRow → PRow) : p.upd k f = p.upd k' f := by unfold PS.upd; rw [h]
section
variable {g : G} {F : Fm} {m : Loc} {H : AH} {X : Value → List V → Loc → AH → Prop} {Q : V → Loc → AH → Prop} {σ : Srt} {B : List (Addr × O)}
theorem m_gni (p : Params) : MethD (Mine.kx.heap_1 p) 137 "_get_nodeinfo" 80 := ⟨rfl, rfl, rfl⟩
theorem add_spec (D : Gd g) (hl : F.lvl < 70) (hh : F.A.handled = none) {k : Int} {ps : List Int} (hps : ps.length ≤ 9) (s : Sat H (σ.lay ++ B)) (hk : σ.abs.names.Nodup) (hf : σ.abs.fits 700)
    (h : match σ.rd with | some _ => X (.type "ValueError") [.str "Nodes cannot be added after a call to prepare()"] m H | none => ∀ (σ' : Srt) (H' : AH), σ'.x = σ.x → σ'.abs = σ.abs.add k ps → Sat H' (σ'.lay ++ B) → Q .none m H') :
    WCode g F (.ref 87) (.ref σ.x :: cd k :: cds ps) m H Q X := by
  have A := at_ns g.w.params
  have A2 := at_slot g.w.params
  have M := m_gni g.w.params
  rw [← D.K] at A A2 M
  refine d_code (D.lk rfl) (D.cd rfl) rfl rfl rfl rfl rfl rfl rfl (lv100 hl rfl) (bs := ([("self", .ref σ.x), ("node", cd k)] : List (Str × V)) ++ ([("predecessors", .tup (cds ps))] : List (Str × V))) (binds_var (k := 2) (fun vs => [("self", vs.getD 0 .none), ("node", vs.getD 1 .none)]) (fun vs S hv => ?_) (fun h vs r => ?_)) rfl fun F' hF => ?_
  · rw [D.K]
    match vs, hv with
    | v :: u :: rest, hv =>
      have hr : rest.length ≤ 9 := by simp [cds] at hv; exact o154 hv hps
      clear hv
      revert hr
      revert rest
      refine len9 ?_ ?_ ?_ ?_ ?_ ?_ ?_ ?_ ?_ ?_ <;> intros <;> exact ⟨_, rfl, fun _ => rfl⟩
  · obtain ⟨v, r', rfl, rv, rr⟩ := r.uncons; obtain ⟨u, r', rfl, ru, rr⟩ := rr.uncons; exact ⟨v, _, rfl, rv, u, [], rfl, ru, rfl⟩
  cases hrd : σ.rd with
  | some r =>
    obtain ⟨a, ns⟩ := r
    rw [hrd] at h
    refine s_cons (s_if (t_cmp rfl (e_attr (e_name rfl (x_get A.2.1 (Srt.inst s) (Srt.ns s) (x := .ref a) (by rw [hrd]; rfl) rfl (e_none (o_isnn (fun _ => by simp) (tr_bool ?_))))))))
    exact s_cons (s_raise PySem.F.excCall_ValueError PySem.F.excRaise_ValueError (hF.hh hh) rfl (hF.glo rfl) (D.nb rfl) D.ve (l_cons (e_str (l_nil ⟨by decide, h⟩))))
  | none =>
    rw [hrd] at h
    refine s_cons (s_if (t_cmp rfl (e_attr (e_name rfl (x_get A.2.1 (Srt.inst s) (Srt.ns s) (x := .none) (by rw [hrd]; rfl) rfl (e_none (o_isnn (fun _ => by simp) (tr_bool (s_nil ?_)))))))))
    refine s_cons (s_assign (hF.loc rfl) rfl (e_meth (e_name rfl (me_ok (meth_inst M (Srt.inst s) (Srt.ns s) rfl) <| cw_plain (D.kp rfl) (l_cons (e_name rfl (l_nil (WCode.call (gni_spec D (hF.lv hl rfl) s (by have := (Srt.fits_rows hf).1; exact o155 this) fun σ1 r1 H1 ex ea erd hr1 hk1 s1 => ?_)))))))))
    have hk1' : (σ1.rows.map (cl ·.k)).Nodup := by rw [← Srt.names_abs, ea]; exact PS.nodup_ens hk k
    have hf1 : σ1.abs.fits 701 := by rw [ea]; exact PS.fits_ens hf k
    refine s_cons (s_augattr (e_name rfl (x_slot A2.2.1 (Srt.node s1 hr1) rfl rfl (e_call (e_blt (hF.glo rfl) (D.nb rfl) D.len (fn_ok <| cw_plain (.blt _) (l_cons (e_name rfl (l_nil (c_lenT (by rw [cds_length]; exact o336 hps) (o_iadd (x_slotset A2.2.1 (Srt.node s1 hr1) (Nat.le_of_ble_eq_true rfl) ?_))))))))))))
    have s2 := Srt.setNode s1 hr1 hk1' (r1.np + (cds ps).length)
    have e2 : (σ1.upd r1.k fun r => { r with np := r1.np + (cds ps).length }).abs = (σ.abs.ens k).upd k fun r => { r with np := r.np + ps.length } := by
      obtain ⟨pre, post, e, hfn⟩ := rows_split hr1 hk1'
      rw [← ea]
      unfold Srt.upd Srt.abs PS.upd
      rw [hfn]
      have := hfn fun r => { r with np := r.np + ps.length }
      rw [hk1] at this
      have e3 : (σ1.rows.map Row.abs).map (fun r => if cl r.k = cl k then ({ r with np := r.np + ps.length } : PRow) else r) = (σ1.rows.map fun r => if cl r.k = cl k then ({ r with np := r.np + ps.length } : Row) else r).map Row.abs := by
        rw [List.map_map, List.map_map]
        refine List.map_congr_left fun r _ => ?_
        show (if cl (Row.abs r).k = cl k then _ else _) = Row.abs (if cl r.k = cl k then _ else _)
        by_cases q : cl r.k = cl k
        · rw [if_pos q, if_pos (show cl (Row.abs r).k = cl k from q)]; rfl
        · rw [if_neg q, if_neg (show ¬ cl (Row.abs r).k = cl k from q)]
      rw [e3, this]
      simp [Row.abs, cds_length, hk1]
    have hn2 : (σ1.upd r1.k fun r => { r with np := r1.np + (cds ps).length }).abs.names.Nodup := by rw [Srt.names_abs, Srt.keys_upd σ1 r1.k (fun r => { r with np := r1.np + (cds ps).length }) (fun _ => rfl)]; exact hk1'
    have hf2 : (σ1.upd r1.k fun r => { r with np := r1.np + (cds ps).length }).abs.fits 701 := by
      rw [e2]; exact PS.fits_upd (k := 0) (by rw [← ea]; exact hf1) k _ fun r => Nat.le_refl _
    obtain ⟨σ2, hσ2⟩ : ∃ z, z = (σ1.upd r1.k fun r => { r with np := r1.np + (cds ps).length }) := ⟨_, rfl⟩
    have hx2 : σ2.x = σ1.x := by rw [hσ2]; rfl
    rw [← hσ2] at s2 e2 hn2 hf2
    refine s_cons (s_for (fun _ => rfl) (e_name rfl (for_any it_tup (fun i m' H' => ∃ σi : Srt, σi.x = σ.x ∧ σi.abs = (ps.take i).foldl (fun p q => p.tell k q) ((σ.abs.ens k).upd k fun r => { r with np := r.np + ps.length }) ∧ σi.abs.names.Nodup ∧ σi.abs.fits (701 + 2 * i) ∧ Sat H' (σi.lay ++ B) ∧ m' "self" = some (.ref σi.x) ∧ m' "node" = some (cd k))
      (hF.hh hh) hF.st (fun _ _ _ _ => trivial) ⟨σ2, hx2.trans ex, by rw [e2]; rfl, hn2, hf2, s2, (by show some (V.ref σ.x) = _; rw [← ex, ← hx2]), rfl⟩ (fun i m' H' hi qq1 => qq1.elim fun σi qq2 => qq2.elim fun ex qq3 => qq3.elim fun ei qq4 => qq4.elim fun hni qq5 => qq5.elim fun hfi qq6 => qq6.elim fun si qq7 => qq7.elim fun m1 m2 => ?_) (fun m' H' qq8 => qq8.elim fun σi qq9 => qq9.elim fun ex qq10 => qq10.elim fun ei qq11 => qq11.elim fun hni qq12 => qq12.elim fun hfi qq13 => qq13.elim fun si qq14 => qq14.elim fun m1 m2 => ?_))))
    · have hi' : i < ps.length := by rw [cds_length] at hi; exact hi
      rw [cds_get hi']
      refine a_name (hF.loc rfl) ?_
      have fa := (Srt.fits_rows hfi)
      refine s_cons (s_assign (hF.loc rfl) rfl (e_meth (e_name (by exact m1) (me_ok (meth_inst M (Srt.inst si) (Srt.ns si) rfl) <| cw_plain (D.kp rfl) (l_cons (e_name rfl (l_nil (WCode.call (gni_spec D (hF.lv hl rfl) si (by exact o156 fa hps hi') fun σ3 r3 H3 ex3 ea3 erd3 hr3 hk3 s3 => ?_)))))))))
      have hn3 : (σ3.rows.map (cl ·.k)).Nodup := by rw [← Srt.names_abs, ea3]; exact PS.nodup_ens hni _
      have hf3 : σ3.abs.fits (701 + 2 * i + 1) := by rw [ea3]; exact PS.fits_ens hfi _
      refine s_cons (s_expr (e_meth (e_attr (e_name rfl (x_slot A2.2.2 (Srt.node s3 hr3) rfl rfl (me_ok (meth_list (.own (Srt.succs s3 hr3)) PySem.F.slot_list_append PySem.F.type_list_append) <| cw_plain (.blt _) (l_cons (e_name (by exact m2) (l_nil (c_append (Srt.succs s3 hr3) (by rw [cds_length]; have := (Srt.fits_rows hf3).2 r3 hr3; exact o157 this hps hi') ?_))))))))))
      have s4 := Srt.setSu s3 hr3 hn3 (r3.su ++ [k])
      rw [cds_snoc]
      have e4 : (σ3.upd r3.k fun r => { r with su := r3.su ++ [k] }).abs = σi.abs.tell k ps[i] := by
        unfold PS.tell
        rw [← ea3, PS.upd_cl _ hk3.symm]
        obtain ⟨pre, post, e, hfn⟩ := rows_split hr3 hn3
        have := hfn fun r => { r with su := r.su ++ [k] }
        rw [← Srt.abs_upd σ3 r3.k (fun r => { r with su := r.su ++ [k] }) _ (fun _ => rfl)]
        unfold Srt.upd
        rw [hfn, this]
      have hn4 : (σ3.upd r3.k fun r => { r with su := r3.su ++ [k] }).abs.names.Nodup := by rw [Srt.names_abs, Srt.keys_upd σ3 r3.k (fun r => { r with su := r3.su ++ [k] }) (fun _ => rfl)]; exact hn3
      obtain ⟨σ4, hσ4⟩ : ∃ z, z = (σ3.upd r3.k fun r => { r with su := r3.su ++ [k] }) := ⟨_, rfl⟩
      have hx4 : σ4.x = σ3.x := by rw [hσ4]; rfl
      rw [← hσ4] at s4 e4 hn4
      refine s_nil ⟨σ4, (hx4.trans ex3).trans ex, ?_, hn4, ?_, s4, ?_, by exact m2⟩
      · rw [e4, ei, List.take_add_one, List.getElem?_eq_getElem hi', List.foldl_append]; rfl
      · rw [e4]
        unfold PS.tell
        have := PS.fits_upd (k := 1) (PS.fits_ens hfi ps[i]) ps[i] (fun r => { r with su := r.su ++ [k] }) fun r => by simp
        exact this
      · show m' "self" = _
        rw [m1, hx4, ex3]
    · refine s_nil (s_nil (h σi H' ex ?_ si))
      rw [ei, cds_length, List.take_of_length_le (Nat.le_refl _)]; rfl
end
end Mine
end
section
open PySem PySem.W PySem.Calls PyProof.Rows PySem.SeqAt
set_option linter.unusedSectionVars false
set_option linter.unusedVariables false
set_option maxRecDepth 100000
namespace Mine
variable [ζ : Dead]
noncomputable def PS.setNp (p : PS) (k np : Int) : PS := p.upd k fun r => { r with np := np }
noncomputable def PS.out (p : PS) (ns : List Int) : PS := ns.foldl (fun p k => p.setNp k (-1)) p
theorem PS.setNp_cl (p : PS) {k k' : Int} (h : cl k = cl k') (np : Int) : p.setNp k np = p.setNp k' np := PS.upd_cl p h _
theorem PS.names_setNp (p : PS) (k np : Int) : (p.setNp k np).names = p.names := PS.names_upd p k _ fun _ => rfl
theorem PS.names_out (ns : List Int) : ∀ p : PS, (p.out ns).names = p.names := by
  induction ns with
  | nil => intro p; rfl
  | cons n ns ih => intro p; unfold PS.out; rw [List.foldl_cons]; exact (ih _).trans (PS.names_setNp ..)
theorem PS.out_more (ns : List Int) : ∀ p : PS, (p.out ns).rd = p.rd ∧ (p.out ns).po = p.po ∧ (p.out ns).nf = p.nf := by
  induction ns with
  | nil => intro p; exact ⟨rfl, rfl, rfl⟩
  | cons n ns ih => intro p; unfold PS.out; rw [List.foldl_cons]; exact ih _
theorem Srt.setNp_abs {σ : Srt} {r : Row} (np : Int) : (σ.upd r.k fun r => { r with np := np }).abs = σ.abs.setNp r.k np := Srt.abs_upd σ r.k (fun r => { r with np := np }) _ fun _ => rfl
section
variable {g : G} {F : Fm} {m : Loc} {H : AH} {X : Value → List V → Loc → AH → Prop} {Q : V → Loc → AH → Prop} {σ : Srt} {B : List (Addr × O)}
theorem dget_row {rows : List Row} {k : Int} (h : cl k ∈ rows.map (cl ·.k)) : ∃ r, r ∈ rows ∧ cl r.k = cl k ∧ dget (dictOfRows rows) k = some (.ref r.na) := by
  obtain ⟨r, e⟩ := findRow_mem h
  obtain ⟨h1, h2⟩ := findRow_some e
  exact ⟨r, h1, h2, by rw [dget_rows, e]; rfl⟩
theorem get_ready_spec (D : Gd g) (hl : F.lvl < 90) (hh : F.A.handled = none) (s : Sat H (σ.lay ++ B)) (hk : σ.abs.names.Nodup)
    (h : match σ.rd with | none => X (.type "ValueError") [.str "prepare() must be called first"] m H | some (a, ns) => ns.length < 1000 ∧ (∀ n ∈ ns, cl n ∈ σ.abs.names) ∧ ∀ (σ' : Srt) (H' : AH), σ'.x = σ.x → σ'.abs = { σ.abs.out ns with rd := some [], po := σ.po + ns.length } → Sat H' (σ'.lay ++ B) → Q (.tup (cds ns)) m H') :
    WCode g F (.ref 99) [.ref σ.x] m H Q X := by
  have A := at_ns g.w.params
  have A2 := at_slot g.w.params
  rw [← D.K] at A A2
  refine d_code (D.lk rfl) (D.cd rfl) rfl rfl rfl rfl rfl rfl rfl (lv100 hl rfl) (binds_peek (fun vs => [("self", vs.getD 0 .none)]) (fun vs S hv => ?_) (fun h vs r => ?_)) (bs := [("self", .ref σ.x)]) rfl fun F' hF => ?_
  · obtain ⟨v, rfl⟩ := len1 hv; rw [D.K]; rfl
  · obtain ⟨v, r', rfl, rv, rr⟩ := r.uncons; exact ⟨v, [], rfl, rv, rfl⟩
  cases hrd : σ.rd with
  | none =>
    rw [hrd] at h
    refine s_cons (s_if (t_cmp rfl (e_attr (e_name rfl (x_get A.2.1 (Srt.inst s) (Srt.ns s) (x := .none) (by rw [hrd]; rfl) rfl (e_none (o_isn (fun _ => by simp) (tr_bool ?_))))))))
    exact s_cons (s_raise PySem.F.excCall_ValueError PySem.F.excRaise_ValueError (hF.hh hh) rfl (hF.glo rfl) (D.nb rfl) D.ve (l_cons (e_str (l_nil ⟨by decide, h⟩))))
  | some r =>
    obtain ⟨a, ns⟩ := r
    rw [hrd] at h
    obtain ⟨hz, hin, h⟩ := h
    refine s_cons (s_if (t_cmp rfl (e_attr (e_name rfl (x_get A.2.1 (Srt.inst s) (Srt.ns s) (x := .ref a) (by rw [hrd]; rfl) rfl (e_none (o_isn (fun _ => by simp) (tr_bool (s_nil ?_)))))))))
    refine s_cons (s_assign (hF.loc rfl) rfl (e_call (e_blt (hF.glo rfl) (D.nb rfl) D.tuple (fn_ok <| cw_plain (.type _) (l_cons (e_attr (e_name rfl (x_get A.2.1 (Srt.inst s) (Srt.ns s) (x := .ref a) (by rw [hrd]; rfl) rfl (l_nil (c_tupleof (.own (Srt.ready s hrd)) (by rw [cds_length]; exact o337 hz) ?_))))))))))
    refine s_cons (s_assign (hF.loc rfl) rfl (e_attr (e_name rfl (x_get A.1 (Srt.inst s) (Srt.ns s) (x := .ref σ.d) rfl rfl ?_))))
    refine s_cons (s_for (fun _ => rfl) (e_name rfl (for_any it_tup (fun i m' H' => ∃ σi : Srt, σi.x = σ.x ∧ σi.d = σ.d ∧ σi.rd = σ.rd ∧ σi.abs = σ.abs.out (ns.take i) ∧ Sat H' (σi.lay ++ B) ∧ m' "self" = some (.ref σ.x) ∧ m' "n2i" = some (.ref σ.d) ∧ m' "result" = some (.tup (cds ns)))
      (hF.hh hh) hF.st (fun _ _ _ _ => trivial) ⟨σ, rfl, rfl, rfl, rfl, s, rfl, rfl, rfl⟩ (fun i m' H' hi qq1 => qq1.elim fun σi qq2 => qq2.elim fun ex qq3 => qq3.elim fun ed qq4 => qq4.elim fun er qq5 => qq5.elim fun ei qq6 => qq6.elim fun si qq7 => qq7.elim fun m1 qq8 => qq8.elim fun m2 m3 => ?_) (fun m' H' qq9 => qq9.elim fun σi qq10 => qq10.elim fun ex qq11 => qq11.elim fun ed qq12 => qq12.elim fun er qq13 => qq13.elim fun ei qq14 => qq14.elim fun si qq15 => qq15.elim fun m1 qq16 => qq16.elim fun m2 m3 => ?_))))
    · have hi' : i < ns.length := by rw [cds_length] at hi; exact hi
      rw [cds_get hi']
      have hni : σi.abs.names = σ.abs.names := by rw [ei, PS.names_out]
      obtain ⟨r, hr, hrk, hdg⟩ := dget_row (rows := σi.rows) (k := ns[i]) (by rw [← Srt.names_abs, hni]; exact hin _ (List.getElem_mem hi'))
      have hkn : (σi.rows.map (cl ·.k)).Nodup := by rw [← Srt.names_abs, hni]; exact hk
      refine a_name (hF.loc rfl) (s_cons (s_assign1 rfl rfl rfl (e_glob (hF.glo rfl) (D.nb rfl) (fun _ => .int' (-1) _) (a_attr (e_sub (e_name (by exact m2) (e_name rfl (gi_dict (ed ▸ Srt.dict si) (o_ditem (ed ▸ Srt.dict si) hdg (x_slotset A2.2.1 (Srt.node si hr) (by simp) (s_nil ?_)))))))))))
      have s4 := Srt.setNode si hr hkn (-1)
      have e4 := Srt.setNp_abs (σ := σi) (r := r) (-1)
      obtain ⟨σ4, hσ4⟩ : ∃ z, z = (σi.upd r.k fun r => { r with np := -1 }) := ⟨_, rfl⟩
      have hx4 : σ4.x = σi.x ∧ σ4.d = σi.d ∧ σ4.rd = σi.rd := by rw [hσ4]; exact ⟨rfl, rfl, rfl⟩
      rw [← hσ4] at s4 e4
      refine ⟨σ4, hx4.1.trans ex, hx4.2.1.trans ed, hx4.2.2.trans er, ?_, s4, by exact m1, by exact m2, by exact m3⟩
      rw [e4, ei, PS.setNp_cl _ hrk, List.take_add_one, List.getElem?_eq_getElem hi']
      unfold PS.out
      rw [List.foldl_append]; rfl
    · rw [cds_length, List.take_of_length_le (Nat.le_refl _)] at ei
      have er' : σi.rd = some (a, ns) := er.trans hrd
      refine s_nil (s_cons (s_expr (e_meth (e_attr (e_name (by exact m1) (x_get A.2.1 (ex ▸ Srt.inst si) (Srt.ns si) (x := .ref a) (by rw [er']; rfl) rfl (me_ok (meth_list (.own (Srt.ready si er')) PySem.F.slot_list_clear PySem.F.type_list_clear) <| cw_plain (.blt _) (l_nil (c_clear (Srt.ready si er') (by rw [cds_length]; exact o151 hz) ?_))))))))) 
      have s5 := Srt.setReady si er' []
      obtain ⟨σ5, hσ5⟩ : ∃ z, z = ({ σi with rd := some (a, []) } : Srt) := ⟨_, rfl⟩
      have hx5 : σ5.x = σi.x ∧ σ5.rd = some (a, []) ∧ σ5.po = σi.po ∧ σ5.nf = σi.nf ∧ σ5.rows = σi.rows := by rw [hσ5]; exact ⟨rfl, rfl, rfl, rfl, rfl⟩
      rw [← hσ5] at s5
      have ix : H' σ.x = some (.inst 137 σi.dx) := ex ▸ Srt.inst si
      have ix5 : put H' a (.list (cds [])) σ.x = some (.inst 137 σ5.dx) := by rw [← ex, ← hx5.1]; exact Srt.inst s5
      have epo : σi.po = σ.po ∧ σi.nf = σ.nf := by
        have := PS.out_more ns σ.abs
        rw [← ei] at this
        exact ⟨this.2.1, this.2.2⟩
      refine s_cons (s_augattr (e_name (by exact m1) (x_get A.2.2.1 ix5 (Srt.ns s5) (x := .int σ5.po) rfl rfl (e_call (e_blt (hF.glo rfl) (D.nb rfl) D.len (fn_ok <| cw_plain (.blt _) (l_cons (e_name (by exact m3) (l_nil (c_lenT (by rw [cds_length]; exact o338 hz) (o_iadd (x_set A.2.2.1 ix5 (Srt.ns s5) (by simp [nsOf]) ?_))))))))))))
      have s6 := Srt.setNs s5 (σ5.po + (cds ns).length) σ5.nf
      refine s_cons (s_ret (e_name (by exact m3) (h ({ σ5 with po := σ5.po + (cds ns).length, nf := σ5.nf } : Srt) _ (hx5.1.trans ex) ?_ s6)))
      unfold Srt.abs
      simp only [hx5.2.1, hx5.2.2.1, hx5.2.2.2.1, hx5.2.2.2.2, cds_length, Option.map_some]
      have e7 : σi.rows.map Row.abs = (σ.abs.out ns).rows := by rw [← ei]; rfl
      have e8 : (σ.abs.out ns).nf = σ.nf := by rw [← ei]; exact epo.2
      rw [e7, epo.1, epo.2]
      show (⟨_, _, _, _⟩ : PS) = ⟨_, _, _, _⟩
      congr 1
      exact e8.symm
end
end Mine
end
section
open PySem PySem.W PySem.Calls PyProof.Rows PySem.SeqAt
set_option linter.unusedSectionVars false
set_option linter.unusedVariables false
set_option maxRecDepth 100000
namespace Mine
variable [ζ : Dead]
structure Lv where
  b : Addr
  it : Addr
  i : Nat
  r : Row
  k : Int
noncomputable def lvLay (f : Lv) : List (Addr × O) := [(f.b, .bound "list_iterator.__next__" f.it), (f.it, .iter f.r.la f.i)]
noncomputable def idx (ks : List Int) : List (Int × V) := ks.zipIdx.map fun p => (p.1, .int (p.2 : Int))
theorem idx_snoc (ks : List Int) (k : Int) : idx (ks ++ [k]) = idx ks ++ [(k, .int (ks.length : Int))] := by unfold idx; simp [List.zipIdx_append]
theorem idx_keys (ks : List Int) : (idx ks).map (cl ·.1) = ks.map cl := by
  unfold idx
  rw [List.map_map]
  have : ((fun e : Int × V => cl e.1) ∘ fun p : Int × Nat => (p.1, V.int (p.2 : Int))) = cl ∘ Prod.fst := rfl
  rw [this, ← List.map_map, List.zipIdx_map_fst]
theorem dput_new {es : List (Int × V)} {k : Int} {x : V} (h : cl k ∉ es.map (cl ·.1)) : dput es k x = es ++ [(k, x)] := by
  unfold dput
  rw [if_neg]
  intro z
  rw [List.any_eq_true] at z
  obtain ⟨p, hp, q⟩ := z
  exact h (by rw [← of_decide_eq_true q]; exact List.mem_map_of_mem (f := fun e : Int × V => cl e.1) hp)
theorem ddel_last {es : List (Int × V)} {k : Int} {x : V} (h : cl k ∉ es.map (cl ·.1)) : ddel (es ++ [(k, x)]) k = es := by
  unfold ddel
  rw [List.filter_append]
  have e1 : es.filter (fun e => decide (cl e.1 ≠ cl k)) = es := List.filter_eq_self.mpr fun p hp => decide_eq_true fun q => h (by rw [← q]; exact List.mem_map_of_mem (f := fun e : Int × V => cl e.1) hp)
  rw [e1]; simp
theorem dget_mem {es : List (Int × V)} {k : Int} : (dget es k).isSome = true ↔ cl k ∈ es.map (cl ·.1) := by
  unfold dget
  rw [Option.isSome_map, List.find?_isSome, List.mem_map]
  simp
theorem dget_idx {ks : List Int} {k : Int} (h : cl k ∈ ks.map cl) : ∃ j : Nat, j < ks.length ∧ dget (idx ks) k = some (.int (j : Int)) := by
  have : (dget (idx ks) k).isSome = true := dget_mem.mpr (by rw [idx_keys]; exact h)
  obtain ⟨v, e⟩ := Option.isSome_iff_exists.mp this
  have e' := e
  unfold dget at e
  obtain ⟨p, hp, rfl⟩ := Option.map_eq_some_iff.mp e
  have hm := List.mem_of_find?_eq_some hp
  unfold idx at hm
  obtain ⟨q, hq, rfl⟩ := List.mem_map.mp hm
  have := (List.mem_zipIdx hq).2.1
  exact ⟨q.2, by exact o158 this, e'⟩
theorem dget_last {es : List (Int × V)} {k : Int} {x : V} (h : cl k ∉ es.map (cl ·.1)) : dget (es ++ [(k, x)]) k = some x := by
  unfold dget
  rw [List.find?_append]
  have : es.find? (fun e => decide (cl e.1 = cl k)) = none := List.find?_eq_none.mpr fun p hp q => h (by rw [← of_decide_eq_true q]; exact List.mem_map_of_mem (f := fun e : Int × V => cl e.1) hp)
  rw [this]; simp
noncomputable def wt (rows : List Row) (T : Int → Bool) : Nat := (rows.map fun r => if T (cl r.k) then 0 else r.su.length + 1).sum
noncomputable def lw (fs : List Lv) : Nat := (fs.map fun f => f.r.su.length - f.i).sum
theorem wt_add {rows : List Row} {r : Row} {T : Int → Bool} (hr : r ∈ rows) (hT : T (cl r.k) = false) : wt rows (fun k' => T k' || decide (k' = cl r.k)) + (r.su.length + 1) ≤ wt rows T := by
  induction rows with
  | nil => cases hr
  | cons y rows ih =>
    unfold wt at ih ⊢
    rw [List.map_cons, List.map_cons, List.sum_cons, List.sum_cons]
    have le : ∀ rows : List Row, (rows.map fun r' => if (T (cl r'.k) || decide (cl r'.k = cl r.k)) = true then 0 else r'.su.length + 1).sum ≤ (rows.map fun r' => if T (cl r'.k) = true then 0 else r'.su.length + 1).sum := by
      intro rows
      induction rows with
      | nil => exact Nat.le_refl _
      | cons z rows ih2 =>
        rw [List.map_cons, List.map_cons, List.sum_cons, List.sum_cons]
        refine Nat.add_le_add ?_ ih2
        cases T (cl z.k) <;> simp
        split <;> omega
    rcases List.mem_cons.mp hr with e | hr
    · subst e
      have := le rows
      simp only [hT, decide_true, Bool.or_true, if_true, Bool.false_eq_true, if_false]
      omega
    · have h2 := ih hr
      dsimp only at h2 ⊢
      have h1 : (if (T (cl y.k) || decide (cl y.k = cl r.k)) = true then 0 else y.su.length + 1) ≤ (if T (cl y.k) = true then 0 else y.su.length + 1) := by
        cases T (cl y.k) <;> simp
        split <;> omega
      omega
noncomputable def CloseR (rows : List Row) : Prop := ∀ r ∈ rows, ∀ q ∈ r.su, cl q ∈ rows.map (cl ·.k)
structure FC (g : G) (σ : Srt) (B : List (Addr × O)) (stk its sn n2s : Addr) (fs : List Lv) (T : Int → Bool) (n ep : Nat) (m : Loc) (H : AH) : Prop where
  sat : Sat H ((stk, .list (cds (fs.map (·.k)))) :: (its, .list (fs.map fun f => .ref f.b)) :: (sn, .set T n) :: (n2s, .dict (idx (fs.map (·.k))) ep) :: (fs.flatMap lvLay ++ (σ.lay ++ B)))
  m1 : m "n2i" = some (.ref σ.d)
  m2 : m "stack" = some (.ref stk)
  m3 : m "itstack" = some (.ref its)
  m4 : m "seen" = some (.ref sn)
  m5 : m "node2stacki" = some (.ref n2s)
  rows : ∀ f ∈ fs, f.r ∈ σ.rows
  nd : ((fs.map (·.k)).map cl).Nodup
  seen : ∀ f ∈ fs, T (cl f.k) = true
  same : ∀ f ∈ fs, cl f.k = cl f.r.k
  room : n + wt σ.rows T + lw fs ≤ 3000
  cnt : fs.length ≤ n
theorem FC.srt {g : G} {σ : Srt} {B : List (Addr × O)} {stk its sn n2s : Addr} {fs : List Lv} {T : Int → Bool} {n ep : Nat} {m : Loc} {H : AH} (x : FC g σ B stk its sn n2s fs T n ep m H) : Sat H (σ.lay ++ B) := by
  have := x.sat
  exact this.tail (A := (stk, .list (cds (fs.map (·.k)))) :: (its, .list (fs.map fun f => .ref f.b)) :: (sn, .set T n) :: (n2s, .dict (idx (fs.map (·.k))) ep) :: fs.flatMap lvLay)
section
variable {g : G} {σ : Srt} {B : List (Addr × O)} {stk its sn n2s : Addr} {fs : List Lv} {T : Int → Bool} {n ep : Nat} {m : Loc} {H : AH}
theorem FC.f3 (x : FC g σ B stk its sn n2s fs T n ep m H) : fs.length ≤ 3000 := by have := x.cnt; have := x.room; exact o339 this (by assumption)
theorem FC.n4 (x : FC g σ B stk its sn n2s fs T n ep m H) : n < 4000 := by have := x.room; exact o160 this
theorem FC.ln (x : FC g σ B stk its sn n2s fs T n ep m H) : (cds (fs.map (·.k))).length ≤ 3000 := by rw [cds_length, List.length_map]; exact x.f3
theorem FC.lb (x : FC g σ B stk its sn n2s fs T n ep m H) : (fs.map fun f => V.ref f.b).length ≤ 3000 := by rw [List.length_map]; exact x.f3
theorem FC.lx (x : FC g σ B stk its sn n2s fs T n ep m H) : (idx (fs.map (·.k))).length ≤ 3000 := by unfold idx; rw [List.length_map, List.length_zipIdx, List.length_map]; exact x.f3
theorem FC.loc (x : FC g σ B stk its sn n2s fs T n ep m H) {m' : Loc} (h1 : m' "n2i" = m "n2i") (h2 : m' "stack" = m "stack") (h3 : m' "itstack" = m "itstack") (h4 : m' "seen" = m "seen") (h5 : m' "node2stacki" = m "node2stacki") : FC g σ B stk its sn n2s fs T n ep m' H :=
  ⟨x.sat, h1.trans x.m1, h2.trans x.m2, h3.trans x.m3, h4.trans x.m4, h5.trans x.m5, x.rows, x.nd, x.seen, x.same, x.room, x.cnt⟩
theorem FC.push (x : FC g σ B stk its sn n2s fs T n ep m H) {r : Row} {k : Int} {b it : Addr} {ep' : Nat} {H' : AH} (hr : r ∈ σ.rows) (hrk : cl r.k = cl k) (hT : T (cl k) = false)
    (y6 : Sat H' ((b, O.bound "list_iterator.__next__" it) :: (it, .iter r.la 0) :: (stk, O.list (cds (fs.map (·.k)) ++ [cd k])) :: (its, .list ((fs.map fun f => V.ref f.b) ++ [V.ref b])) :: (sn, .set (fun k' => T k' || decide (k' = cl k)) (n + 1)) :: (n2s, .dict (dput (idx (fs.map (·.k))) k (V.int (cds (fs.map (·.k))).length)) ep') :: (fs.flatMap lvLay ++ (σ.lay ++ B)))) :
    FC g σ B stk its sn n2s (fs ++ [⟨b, it, 0, r, k⟩]) (fun k' => T k' || decide (k' = cl k)) (n + 1) ep' m H' ∧ wt σ.rows (fun k' => T k' || decide (k' = cl k)) + lw (fs ++ [⟨b, it, 0, r, k⟩]) ≤ wt σ.rows T + lw fs := by
  have hnin : cl k ∉ (fs.map (·.k)).map cl := fun q => by obtain ⟨_, hk, e⟩ := List.mem_map.mp q; obtain ⟨f, hf, rfl⟩ := List.mem_map.mp hk; have := x.seen f hf; rw [e, hT] at this; cases this
  have y7 := Sat.perm (L := [(b, O.bound "list_iterator.__next__" it), (it, .iter r.la 0)] ++ (([(stk, O.list (cds (fs.map (·.k)) ++ [cd k])), (its, .list ((fs.map fun f => V.ref f.b) ++ [V.ref b])), (sn, .set (fun k' => T k' || decide (k' = cl k)) (n + 1)), (n2s, .dict (dput (idx (fs.map (·.k))) k (V.int (cds (fs.map (·.k))).length)) ep')] ++ fs.flatMap lvLay) ++ (σ.lay ++ B))) y6 (perm_rot [(b, O.bound "list_iterator.__next__" it), (it, .iter r.la 0)] ([(stk, O.list (cds (fs.map (·.k)) ++ [cd k])), (its, .list ((fs.map fun f => V.ref f.b) ++ [V.ref b])), (sn, .set (fun k' => T k' || decide (k' = cl k)) (n + 1)), (n2s, .dict (dput (idx (fs.map (·.k))) k (V.int (cds (fs.map (·.k))).length)) ep')] ++ fs.flatMap lvLay) (σ.lay ++ B))
  rw [dput_new (by rw [idx_keys]; exact hnin)] at y7
  have hwt := wt_add (rows := σ.rows) (r := r) (T := T) hr (by rw [hrk]; exact hT)
  rw [hrk] at hwt
  have hroom := x.room
  have hlw : lw (fs ++ [⟨b, it, 0, r, k⟩]) = lw fs + r.su.length := by unfold lw; simp
  have hle : wt σ.rows (fun k' => T k' || decide (k' = cl k)) + lw (fs ++ [⟨b, it, 0, r, k⟩]) + 1 ≤ wt σ.rows T + lw fs := by rw [hlw]; exact o161 hwt
  refine ⟨⟨?_, x.m1, x.m2, x.m3, x.m4, x.m5, ?_, ?_, ?_, ?_, ?_, ?_⟩, Nat.le_of_succ_le hle⟩
  · simp only [List.map_append, List.map_cons, List.map_nil, List.flatMap_append, List.flatMap_cons, List.flatMap_nil, lvLay, idx_snoc, hrk]
    simp only [cds, List.map_append, List.map_cons, List.map_nil, List.length_map, List.cons_append, List.nil_append, List.append_assoc, List.append_nil] at y7 ⊢
    exact y7
  · intro f hf
    rcases List.mem_append.mp hf with hf | hf
    · exact x.rows f hf
    · rw [List.mem_singleton] at hf; subst hf; exact hr
  · rw [List.map_append, List.map_append, List.nodup_append]
    exact ⟨x.nd, by simp, fun a ha b' hb' => by simp at hb'; subst hb'; intro e; rw [e] at ha; exact hnin ha⟩
  · intro f hf
    rcases List.mem_append.mp hf with hf | hf
    · simp only [x.seen f hf, Bool.true_or]
    · rw [List.mem_singleton] at hf; subst hf; simp
  · intro f hf
    rcases List.mem_append.mp hf with hf | hf
    · exact x.same f hf
    · rw [List.mem_singleton] at hf; subst hf; exact hrk.symm
  · exact o421 hlw hroom hwt
  · rw [List.length_append]; exact Nat.succ_le_succ x.cnt
theorem FC.next {pre : List Lv} {f : Lv} (x : FC g σ B stk its sn n2s (pre ++ [f]) T n ep m H) (hlt : f.i < f.r.su.length) :
    FC g σ B stk its sn n2s (pre ++ [{ f with i := f.i + 1 }]) T n ep m (put H f.it (.iter f.r.la (f.i + 1))) ∧ wt σ.rows T + lw (pre ++ [{ f with i := f.i + 1 }]) < wt σ.rows T + lw (pre ++ [f]) := by
  have y0 := x.sat
  simp only [List.map_append, List.map_cons, List.map_nil, List.flatMap_append, List.flatMap_cons, List.flatMap_nil, lvLay, List.append_nil, List.append_assoc, List.cons_append, List.nil_append] at y0
  have y1 := Sat.mid (A := (stk, O.list (cds (pre.map (·.k) ++ [f.k]))) :: (its, .list ((pre.map fun f => V.ref f.b) ++ [V.ref f.b])) :: (sn, .set T n) :: (n2s, .dict (idx (pre.map (·.k) ++ [f.k])) ep) :: (pre.flatMap lvLay ++ [(f.b, .bound "list_iterator.__next__" f.it)])) (a := f.it) (o := .iter f.r.la f.i) (C := σ.lay ++ B) (by simpa [lvLay] using y0) (.iter f.r.la (f.i + 1))
  have hl1 : lw (pre ++ [{ f with i := f.i + 1 }]) + 1 = lw (pre ++ [f]) := by unfold lw; simp; exact o163 hlt
  have hroom := x.room
  have hcnt := x.cnt
  refine ⟨⟨by simpa [lvLay] using y1, x.m1, x.m2, x.m3, x.m4, x.m5, ?_, by simpa using x.nd, ?_, ?_, by exact o164 hl1 hroom, by simpa using hcnt⟩, by exact o165 hl1⟩
  · intro f' hf'
    rcases List.mem_append.mp hf' with hf' | hf'
    · exact x.rows f' (List.mem_append_left _ hf')
    · rw [List.mem_singleton] at hf'; subst hf'; exact x.rows f (by simp)
  · intro f' hf'
    rcases List.mem_append.mp hf' with hf' | hf'
    · exact x.seen f' (List.mem_append_left _ hf')
    · rw [List.mem_singleton] at hf'; subst hf'; exact x.seen f (by simp)
  · intro f' hf'
    rcases List.mem_append.mp hf' with hf' | hf'
    · exact x.same f' (List.mem_append_left _ hf')
    · rw [List.mem_singleton] at hf'; subst hf'; exact x.same f (by simp)
theorem FC.out {pre : List Lv} {f : Lv} (x : FC g σ B stk its sn n2s (pre ++ [f]) T n ep m H) :
    Sat (rem H f.it) ((stk, O.list (cds (pre.map (·.k)) ++ [cd f.k])) :: (its, .list ((pre.map fun f => V.ref f.b) ++ [V.ref f.b])) :: (sn, .set T n) :: (n2s, .dict (idx (pre.map (·.k)) ++ [(f.k, .int ((pre.map (·.k)).length : Int))]) ep) :: ((pre.flatMap lvLay ++ [(f.b, .bound "list_iterator.__next__" f.it)]) ++ (σ.lay ++ B))) ∧ cl f.k ∉ (pre.map (·.k)).map cl ∧ pre.length ≤ 3000 := by
  have y0 := x.sat
  simp only [List.map_append, List.map_cons, List.map_nil, List.flatMap_append, List.flatMap_cons, List.flatMap_nil, lvLay, List.append_nil, List.append_assoc, List.cons_append, List.nil_append] at y0
  have hnd := x.nd
  rw [List.map_append, List.map_append, List.nodup_append] at hnd
  refine ⟨?_, fun q => hnd.2.2 (cl f.k) q (cl f.k) (by simp) rfl, Nat.le_trans (by rw [List.length_append]; exact Nat.le_add_right _ _) x.f3⟩
  rw [idx_snoc] at y0
  refine Sat.rem (o := .iter f.r.la f.i) (y0.perm ?_)
  have := List.perm_middle (a := (f.it, O.iter f.r.la f.i)) (l₁ := (stk, O.list (cds (pre.map (·.k)) ++ [cd f.k])) :: (its, .list ((pre.map fun f => V.ref f.b) ++ [V.ref f.b])) :: (sn, .set T n) :: (n2s, .dict (idx (pre.map (·.k)) ++ [(f.k, .int ((pre.map (·.k)).length : Int))]) ep) :: (pre.flatMap lvLay ++ [(f.b, O.bound "list_iterator.__next__" f.it)])) (l₂ := σ.lay ++ B)
  simpa [lvLay, cds] using this
theorem FC.pop {pre : List Lv} {f : Lv} (x : FC g σ B stk its sn n2s (pre ++ [f]) T n ep m H) {ep' : Nat} {H' : AH}
    (y4 : Sat H' ((stk, O.list (cds (pre.map (·.k)))) :: (its, .list (pre.map fun f => V.ref f.b)) :: (sn, .set T n) :: (n2s, .dict (idx (pre.map (·.k))) ep') :: ((pre.flatMap lvLay ++ [(f.b, .bound "list_iterator.__next__" f.it)]) ++ (σ.lay ++ B)))) :
    FC g σ B stk its sn n2s pre T n ep' m H' ∧ lw pre ≤ lw (pre ++ [f]) := by
  have hl1 : lw pre ≤ lw (pre ++ [f]) := by unfold lw; simp
  have hroom := x.room
  have hcnt := x.cnt
  have hnd := x.nd
  rw [List.map_append, List.map_append, List.nodup_append] at hnd
  rw [List.length_append] at hcnt
  refine ⟨⟨?_, x.m1, x.m2, x.m3, x.m4, x.m5, fun f' hf' => x.rows f' (List.mem_append_left _ hf'), hnd.1, fun f' hf' => x.seen f' (List.mem_append_left _ hf'), fun f' hf' => x.same f' (List.mem_append_left _ hf'), by exact o166 hroom hl1, Nat.le_trans (Nat.le_add_right _ _) hcnt⟩, hl1⟩
  exact y4.sublist (.cons_cons _ (.cons_cons _ (.cons_cons _ (.cons_cons _ (by rw [List.append_assoc]; exact (List.Sublist.refl _).append ((List.Sublist.refl _).cons _))))))
end
end Mine
end
section
open PySem PySem.W PySem.Calls PyProof.Rows PySem.SeqAt
set_option linter.unusedSectionVars false
set_option linter.unusedVariables false
set_option maxRecDepth 100000
namespace Mine
variable [ζ : Dead]
section
variable {g : G} {F : Fm} {m : Loc} {H : AH} {X : Value → List V → Loc → AH → Prop} {Q : V → Loc → AH → Prop} {σ : Srt} {B : List (Addr × O)}
theorem cut_from (xs : List V) (j : Int) : (cut xs (some j) none none).length ≤ xs.length := by
  unfold cut
  refine Nat.le_trans (List.length_filterMap_le ..) ?_
  unfold sliceRange sliceBounds
  simp only [Option.getD_none, List.length_map, List.length_range]
  split <;> split <;> (try split) <;> simp <;> omega
theorem stop_catch (D : Gd g) : Catches g (.type "StopIteration") (.type "StopIteration") true := ⟨(Looks.of_pure rfl : Looks _ _ (typeOf (.type "StopIteration")) _).andThen (Looks.of_pure (by rw [isSubtype_type]; kernel_rfl)), Looks.now, by rw [D.K]; kernel_rfl, by rw [D.K]; kernel_rfl⟩
theorem find_cycle_spec (D : Gd g) (hl : F.lvl < 90) (hh : F.A.handled = none) (s : Sat H (σ.lay ++ B)) (hk : σ.abs.names.Nodup) (hc : CloseR σ.rows) (hw : wt σ.rows (fun _ => false) ≤ 3000)
    (h1 : ∀ H', Sat H' (σ.lay ++ B) → Q .none m H') (h2 : ∀ l xs H', Sat H' ((l, .list xs) :: (σ.lay ++ B)) → xs ≠ [] → xs.length ≤ 4000 → Q (.ref l) m H') : WCode g F (.ref 127) [.ref σ.x] m H Q X := by
  have A := at_ns g.w.params
  have A2 := at_slot g.w.params
  rw [← D.K] at A A2
  have hkr : (σ.rows.map (cl ·.k)).Nodup := by rw [← Srt.names_abs]; exact hk
  refine d_code (D.lk rfl) (D.cd rfl) rfl rfl rfl rfl rfl rfl rfl (lv100 hl rfl) (binds_peek (fun vs => [("self", vs.getD 0 .none)]) (fun vs S hv => ?_) (fun h vs r => ?_)) (bs := [("self", .ref σ.x)]) rfl fun F' hF => ?_
  · obtain ⟨v, rfl⟩ := len1 hv; rw [D.K]; rfl
  · obtain ⟨v, r', rfl, rv, rr⟩ := r.uncons; exact ⟨v, [], rfl, rv, rfl⟩
  refine s_cons (s_assign (hF.loc rfl) rfl (e_attr (e_name rfl (x_get A.1 (Srt.inst s) (Srt.ns s) (x := .ref σ.d) rfl rfl ?_))))
  refine s_cons (s_assign (hF.loc rfl) rfl (e_list (l_nil ⟨by decide, fun stk hstk => ?_⟩)))
  have s1 := s.new (o := .list []) hstk
  refine s_cons (s_assign (hF.loc rfl) rfl (e_list (l_nil ⟨by decide, fun its hits => ?_⟩)))
  have s2 := s1.new (o := .list []) hits
  refine s_cons (s_assign (hF.loc rfl) rfl (e_call (e_blt (hF.glo rfl) (D.nb rfl) D.set (fn_ok <| cw_plain (.type _) (l_nil (c_set0 fun sn hsn => ?_))))))
  have s3 := s2.new (o := .set (fun _ => false) 0) hsn
  refine s_cons (s_assign (hF.loc rfl) rfl (e_dict0 fun n2s hn2s => ?_))
  have s4 := s3.new (o := .dict [] 0) hn2s
  have s5 : Sat _ ((stk, .list (cds (([] : List Lv).map (·.k)))) :: (its, .list (([] : List Lv).map fun f => .ref f.b)) :: (sn, .set (fun _ => false) 0) :: (n2s, .dict (idx (([] : List Lv).map (·.k))) 0) :: (([] : List Lv).flatMap lvLay ++ (σ.lay ++ B))) :=
    s4.perm (by
      show List.Perm ([(n2s, O.dict [] 0), (sn, .set (fun _ => false) 0), (its, .list []), (stk, .list [])] ++ (σ.lay ++ B)) ([(stk, O.list []), (its, .list []), (sn, .set (fun _ => false) 0), (n2s, .dict [] 0)] ++ (σ.lay ++ B))
      exact (List.reverse_perm [(stk, O.list []), (its, .list []), (sn, .set (fun _ => false) 0), (n2s, .dict [] 0)]).append_right _)
  refine s_cons (s_for (fun _ => rfl) (e_name rfl (for_any (it_dict (d := σ.d) (es := dictOfRows σ.rows) (ep := σ.ep)) (fun i m' H' => ∃ T n ep, FC g σ B stk its sn n2s [] T n ep m' H')
    (hF.hh hh) hF.st (fun i m' H' ⟨T, n, ep, x⟩ => Srt.dict x.srt) ⟨_, _, _, s5, rfl, rfl, rfl, rfl, rfl, (fun _ h => by cases h), List.nodup_nil, (fun _ h => by cases h), (fun _ h => by cases h), by show 0 + wt σ.rows (fun _ => false) + 0 ≤ 3000; exact o167 hw, Nat.le_refl _⟩ (fun i m' H' hi ⟨T, n, ep, x⟩ => ?_) (fun m' H' ⟨T, n, ep, x⟩ => ?_))))
  · have hi' : i < σ.rows.length := by unfold dictOfRows at hi; simpa using hi
    have ev : ((dictOfRows σ.rows).getD i (0, .none)).1 = σ.rows[i].k := by unfold dictOfRows; rw [List.getD_eq_getElem?_getD, List.getElem?_map, List.getElem?_eq_getElem hi']; rfl
    rw [ev]
    refine a_name (hF.loc rfl) (s_cons (s_if (t_cmp rfl (e_name rfl (e_name (by exact x.m4) (o_inset x.sat.at2 (tr_bool ?_)))))))
    cases hT : T (cl σ.rows[i].k) with
    | true => exact s_cons (s_cont ⟨T, n, ep, x.loc rfl rfl rfl rfl rfl⟩)
    | false =>
      refine s_nil (s_cons (s_while (fun μ m' H' => ∃ fs T n ep k, FC g σ B stk its sn n2s fs T n ep m' H' ∧ m' "node" = some (cd k) ∧ cl k ∈ σ.rows.map (cl ·.k) ∧ wt σ.rows T + lw fs = μ) _ hF.st ⟨[], T, n, ep, σ.rows[i].k, x.loc rfl rfl rfl rfl rfl, rfl, List.mem_map_of_mem (f := fun r : Row => cl r.k) (List.getElem_mem hi'), rfl⟩ (fun μ m' H' ⟨fs, T, n, ep, k, x, mk, hkn, hμ⟩ => ?_)))
      refine t_val (e_bool (tr_bool ?_))
      rw [if_pos rfl]
      have hn := x.n4
      refine s_cons (Wt.mono (Q := fun f m' H' => (f = .next ∧ ∃ fs T n ep, FC g σ B stk its sn n2s fs T n ep m' H' ∧ wt σ.rows T + lw fs ≤ μ) ∨ (∃ l xs, f = .ret (.ref l) ∧ Sat H' ((l, .list xs) :: (σ.lay ++ B)) ∧ xs ≠ [] ∧ xs.length ≤ 4000)) ?_ (fun f m' H' hq => ?_) (fun _ _ _ _ z => z))
      · refine s_if (t_cmp rfl (e_name (by exact mk) (e_name (by exact x.m4) (o_inset x.sat.at2 (tr_bool ?_)))))
        cases hT : T (cl k) with
        | true =>
          refine s_cons (s_if (t_cmp rfl (e_name (by exact mk) (e_name (by exact x.m5) (o_ind x.sat.at3 (tr_bool ?_))))))
          by_cases hin : cl k ∈ (fs.map (·.k)).map cl
          · rw [if_pos (dget_mem.mpr (by rw [idx_keys]; exact hin))]
            obtain ⟨j, hj, hg⟩ := dget_idx hin
            have hlen := x.ln
            refine s_cons (s_ret (e_bin (e_slice (e_name (by exact x.m2) (p_some (e_sub (e_name (by exact x.m5) (e_name (by exact mk) (gi_dict x.sat.at3 (o_ditem x.sat.at3 hg (p_none (p_none ⟨stk, _, some (j : Int), none, none, rfl, .own x.sat.at0, Nat.le_trans hlen (Nat.le_of_ble_eq_true rfl), .int j, .none, .none, (fun q => nomatch q), fun c hc => ?_⟩))))))))))))
            have y1 := x.sat.new (o := .list (cut (cds (fs.map (·.k))) (some (j : Int)) none none)) hc
            refine e_list (l_cons (e_name (by exact mk) (l_nil ⟨Nat.le_of_ble_eq_true rfl, fun c2 hc2 => ?_⟩)))
            have y2 := y1.new (o := .list [cd k]) hc2
            have hcl := cut_from (cds (fs.map (·.k))) j
            have hcl2 := Nat.le_trans hcl hlen
            refine o_concat (.own y2.at1) (.own y2.at0) (Nat.le_trans (Nat.succ_le_succ hcl2) (Nat.le_of_ble_eq_true rfl)) fun c3 hc3 => ?_
            have y3 := y2.new (o := .list (cut (cds (fs.map (·.k))) (some (j : Int)) none none ++ [cd k])) hc3
            refine .inr ⟨c3, cut (cds (fs.map (·.k))) (some (j : Int)) none none ++ [cd k], rfl, ?_, by simp, by rw [List.length_append]; exact Nat.le_trans (Nat.succ_le_succ hcl2) (Nat.le_of_ble_eq_true rfl)⟩
            exact y3.sublist (.cons_cons _ (.cons _ (.cons _ (.cons _ (.cons _ (.cons _ (.cons _ (List.sublist_append_right ..))))))))
          · rw [if_neg (fun q => hin (by have := dget_mem.mp q; rw [idx_keys] at this; exact this))]
            exact s_nil (s_nil (.inl ⟨rfl, fs, T, n, ep, x, Nat.le_of_eq hμ⟩))
        | false =>
          obtain ⟨r, hr, hrk, hdg⟩ := dget_row (rows := σ.rows) hkn
          refine s_cons (s_expr (e_meth (e_name (by exact x.m4) (me_ok (meth_set x.sat.at2) <| cw_plain (.blt _) (l_cons (e_name (by exact mk) (l_nil (c_setadd x.sat.at2 ?_))))))))
          rw [hT, if_neg (by decide)]
          have y1 := x.sat.set2 (.set (fun k' => T k' || decide (k' = cl k)) (n + 1))
          have d1 : Sat _ (σ.lay ++ B) := y1.tail (A := (stk, .list (cds (fs.map (·.k)))) :: (its, .list (fs.map fun f => .ref f.b)) :: (sn, .set _ _) :: (n2s, .dict (idx (fs.map (·.k))) ep) :: fs.flatMap lvLay)
          refine s_cons (s_expr (e_meth (e_name (by exact x.m3) (me_ok (meth_list (.own y1.at1) PySem.F.slot_list_append PySem.F.type_list_append) <| cw_plain (.blt _) (l_cons (e_attr (e_call (e_blt (hF.glo rfl) (D.nb rfl) D.iter (fn_ok <| cw_plain (.blt _) (l_cons (e_attr (e_sub (e_name (by exact x.m1) (e_name (by exact mk) (gi_dict (Srt.dict d1) (o_ditem (Srt.dict d1) hdg (x_slot A2.2.2 (Srt.node d1 hr) rfl rfl (l_nil (c_iter (Srt.succs d1 hr) fun it hit => ?_)))))))))))))))))))
          have y2 := y1.new (o := .iter r.la 0) hit
          refine x_next y2.at0 fun b hb => l_nil ?_
          have y3 := y2.new (o := .bound "list_iterator.__next__" it) hb
          refine c_append y3.at3 (Nat.le_trans x.lb (Nat.le_of_ble_eq_true rfl)) ?_
          have y4 := y3.set3 (.list ((fs.map fun f => V.ref f.b) ++ [.ref b]))
          refine s_cons (s_assign1 rfl rfl rfl (e_call (e_blt (hF.glo rfl) (D.nb rfl) D.len (fn_ok <| cw_plain (.blt _) (l_cons (e_name (by exact x.m2) (l_nil (c_len (.own y4.at2) (Nat.lt_of_le_of_lt x.ln (Nat.le_of_ble_eq_true rfl)) (a_sub (e_name (by exact x.m5) (e_name (by exact mk) (o_dset y4.at5 (Nat.le_trans x.lx (Nat.le_of_ble_eq_true rfl)) fun ep' => ?_))))))))))))
          have y5 := y4.set5 (.dict (dput (idx (fs.map (·.k))) k (.int (cds (fs.map (·.k))).length)) ep')
          refine s_cons (s_expr (e_meth (e_name (by exact x.m2) (me_ok (meth_list (.own y5.at2) PySem.F.slot_list_append PySem.F.type_list_append) <| cw_plain (.blt _) (l_cons (e_name (by exact mk) (l_nil (c_append y5.at2 (Nat.le_trans x.ln (Nat.le_of_ble_eq_true rfl)) ?_))))))))
          have y6 := y5.set2 (.list (cds (fs.map (·.k)) ++ [cd k]))
          obtain ⟨x', hw'⟩ := x.push hr hrk hT y6
          exact s_nil (.inl ⟨rfl, _, _, _, ep', x'.loc rfl rfl rfl rfl rfl, Nat.le_trans hw' (Nat.le_of_eq hμ)⟩)
      · rcases hq with ⟨rfl, fs, T, n, ep, x, hm⟩ | ⟨l, xs, rfl, hs, hne, hln⟩
        · refine s_cons (s_while (fun κ m' H' => ∃ fs T n ep, FC g σ B stk its sn n2s fs T n ep m' H' ∧ wt σ.rows T + lw fs ≤ μ ∧ fs.length = κ) _ hF.st ⟨fs, T, n, ep, x, hm, rfl⟩ (fun κ m' H' ⟨fs, T, n, ep, x, hm, hκ⟩ => ?_))
          refine t_val (e_name (by exact x.m2) (tr_list (.own x.sat.at0) (Nat.lt_of_le_of_lt x.ln (Nat.le_of_ble_eq_true rfl)) ?_))
          rcases List.eq_nil_or_concat fs with e | ⟨pre, f, e⟩
          · subst e
            rw [if_neg (by simp [cds])]
            exact s_cons (s_break (s_nil ⟨T, n, ep, x⟩))
          · rw [List.concat_eq_append] at e
            subst e
            rw [if_pos (by simp [cds])]
            have hfr := x.rows f (by simp)
            have hb : H' f.b = some (.bound "list_iterator.__next__" f.it) := x.sat.get (by simp [lvLay])
            have hit : H' f.it = some (.iter f.r.la f.i) := x.sat.get (by simp [lvLay])
            have hla := Srt.succs x.srt hfr
            refine s_cons (s_try hF.st (s_cons (s_assign (hF.loc rfl) rfl (e_callnext (hF.hh hh) (e_sub (e_name (by exact x.m3) (e_un (e_int (o_neg (gi_list (.own x.sat.at1) (o_last (.own x.sat.at1) (x := .ref f.b) (by simp) ⟨f.b, f.it, f.r.la, f.i, cds f.r.su, rfl, hb, hit, hla, ?_⟩)))))))))))
            cases hq : f.r.su[f.i]? with
            | some q =>
              have e1 : (cds f.r.su)[f.i]? = some (cd q) := cds_at hq
              rw [e1]
              have hlt : f.i < f.r.su.length := (List.getElem?_eq_some_iff.mp hq).1
              obtain ⟨x', hw'⟩ := x.next hlt
              exact s_cons (s_break (s_nil ⟨_, Nat.lt_of_lt_of_le hw' hm, _, T, n, ep, q, x'.loc rfl rfl rfl rfl rfl, rfl, hc f.r hfr q (List.mem_of_getElem? hq), rfl⟩))
            | none =>
              have e1 : (cds f.r.su)[f.i]? = none := by unfold cds; rw [List.getElem?_map, hq]; rfl
              rw [e1]
              refine h_take (spec_blt (hF.glo rfl) (D.nb rfl) D.stop) (stop_catch D) fun e => ?_
              obtain ⟨y1, hni, hpl⟩ := x.out
              have hpl1 : (cds (pre.map (·.k))).length ≤ 3000 := by rw [cds_length, List.length_map]; exact hpl
              have hpl2 : (pre.map fun f => V.ref f.b).length ≤ 3000 := by rw [List.length_map]; exact hpl
              have hpl3 : (idx (pre.map (·.k)) ++ [(f.k, V.int ((pre.map (·.k)).length : Int))]).length ≤ 3001 := by unfold idx; rw [List.length_append, List.length_map, List.length_zipIdx, List.length_map]; exact Nat.succ_le_succ hpl
              refine s_cons (s_delsub (e_name (by exact x.m5) (e_meth (e_name (by exact x.m2) (me_ok (meth_list (.own y1.at0) PySem.F.slot_list_pop PySem.F.type_list_pop) <| cw_plain (.blt _) (l_nil (c_pop y1.at0 (Nat.lt_of_le_of_lt hpl1 (Nat.le_of_ble_eq_true rfl)) ?_)))))))
              have y2 := y1.set (.list (cds (pre.map (·.k))))
              refine o_ddel y2.at3 (Nat.le_trans hpl3 (Nat.le_of_ble_eq_true rfl)) (dget_last (by rw [idx_keys]; exact hni)) fun ep' => ?_
              rw [ddel_last (by rw [idx_keys]; exact hni)]
              have y3 := y2.set3 (.dict (idx (pre.map (·.k))) ep')
              refine s_cons (s_expr (e_meth (e_name (by exact x.m3) (me_ok (meth_list (.own y3.at1) PySem.F.slot_list_pop PySem.F.type_list_pop) <| cw_plain (.blt _) (l_nil (c_pop y3.at1 (Nat.lt_of_le_of_lt hpl2 (Nat.le_of_ble_eq_true rfl)) ?_))))))
              have y4 := y3.set1 (.list (pre.map fun f => V.ref f.b))
              obtain ⟨x', hw'⟩ := x.pop y4
              rw [List.length_append] at hκ
              exact s_nil (s_nil ⟨pre.length, by rw [← hκ]; exact Nat.lt_succ_self _, pre, T, n, ep', x'.loc rfl rfl rfl rfl rfl, Nat.le_trans (Nat.add_le_add_left hw' _) hm, rfl⟩)
        · exact h2 l xs _ hs hne hln
  · refine s_nil (s_cons (s_ret (e_none (h1 _ x.srt))))
end
end Mine
end
section
open PySem PySem.W PySem.Calls PyProof.Rows PySem.SeqAt
set_option linter.unusedSectionVars false
set_option linter.unusedVariables false
set_option maxRecDepth 100000
namespace Mine
variable [ζ : Dead]
noncomputable def readyOf (rows : List Row) : List Int := (rows.filter fun r => r.np == 0).map (·.k)
theorem readyOf_len (rows : List Row) : (readyOf rows).length ≤ rows.length := by unfold readyOf; rw [List.length_map]; exact List.length_filter_le ..
section
variable {g : G} {F : Fm} {m : Loc} {H : AH} {X : Value → List V → Loc → AH → Prop} {Q : V → Loc → AH → Prop} {σ : Srt} {B : List (Addr × O)}
theorem e_joined1 {e : Expr} {pos : Pos} (h : WE g F (eval e F.env) m H Q X) : WE g F (eval (.JoinedStr [e] pos) F.env) m H Q X := fun s S => wpAny_JoinedStr_one (h s S)
theorem m_fc (p : Params) : MethD (Mine.kx.heap_1 p) 137 "_find_cycle" 127 := ⟨rfl, rfl, rfl⟩
theorem prepare_spec (D : Gd g) (hl : F.lvl < 80) (hh : F.A.handled = none) (s : Sat H (σ.lay ++ B)) (hk : σ.abs.names.Nodup) (hc : CloseR σ.rows) (hw : wt σ.rows (fun _ => false) ≤ 3000) (hrd : σ.rd = none) (hz : σ.rows.length ≤ 1000)
    (h1 : ∀ (σ' : Srt) (H' : AH), σ'.x = σ.x → σ'.abs = { σ.abs with rd := some (readyOf σ.rows) } → Sat H' (σ'.lay ++ B) → Q .none m H' ∧ ∀ l, X (.ref 55) [.str "nodes are in a cycle", .ref l] m H') : WCode g F (.ref 92) [.ref σ.x] m H Q X := by
  have A := at_ns g.w.params
  have A2 := at_slot g.w.params
  have M := m_fc g.w.params
  rw [← D.K] at A A2 M
  refine d_code (D.lk rfl) (D.cd rfl) rfl rfl rfl rfl rfl rfl rfl (lv100 hl rfl) (binds_peek (fun vs => [("self", vs.getD 0 .none)]) (fun vs S hv => ?_) (fun h vs r => ?_)) (bs := [("self", .ref σ.x)]) rfl fun F' hF => ?_
  · obtain ⟨v, rfl⟩ := len1 hv; rw [D.K]; rfl
  · obtain ⟨v, r', rfl, rv, rr⟩ := r.uncons; exact ⟨v, [], rfl, rv, rfl⟩
  refine s_cons (s_if (t_cmp rfl (e_attr (e_name rfl (x_get A.2.1 (Srt.inst s) (Srt.ns s) (x := .none) (by rw [hrd]; rfl) rfl (e_none (o_isnn (fun _ => by simp) (tr_bool (s_nil ?_)))))))))
  refine s_cons (s_assign1 rfl rfl rfl (e_comp (CompHead.of hF rfl rfl) (fun _ => rfl) (hF.hh hh) hF.st (fun Fc acc it => turn_one ..) (e_meth (e_attr (e_name rfl (x_get A.1 (Srt.inst s) (Srt.ns s) (x := .ref σ.d) rfl rfl (me_ok (meth_dict (Srt.dict s) PySem.F.slot_dict_values PySem.F.type_dict_values) <| cw_plain (.blt _) (l_nil (c_values (Srt.dict s) ?_)))))))))
  · refine ⟨_, _, _, _, fun i ys m' H' => H' = H ∧ ys = cds (readyOf (σ.rows.take i)), it_values (d := σ.d) (es := dictOfRows σ.rows) (ep := σ.ep), rfl, fun i ys m' H' qq1 => qq1.elim fun e _ => by rw [e]; exact Srt.dict s, ⟨rfl, rfl⟩, fun Fc acc hC i ys m' H' hi qq2 => qq2.elim fun e1 e2 => ?_, fun ys m' H' qq3 => qq3.elim fun e1 e2 => ?_⟩
    · subst e1
      have hi' : i < σ.rows.length := by unfold dictOfRows at hi; simpa using hi
      have ev : ((dictOfRows σ.rows).getD i (0, .none)).2 = .ref σ.rows[i].na := by unfold dictOfRows; rw [List.getD_eq_getElem?_getD, List.getElem?_map, List.getElem?_eq_getElem hi']; rfl
      rw [ev]
      have hr := List.getElem_mem hi'
      refine a_name (hC.loc rfl) (tests_one (t_cmp rfl (e_attr (e_name rfl (x_slot A2.2.1 (Srt.node s hr) rfl rfl (e_int (o_eqi (tr_bool ?_))))))))
      have es : readyOf (σ.rows.take (i + 1)) = readyOf (σ.rows.take i) ++ (if σ.rows[i].np == 0 then [σ.rows[i].k] else []) := by
        unfold readyOf
        rw [List.take_add_one, List.getElem?_eq_getElem hi', List.filter_append, List.map_append]
        cases z : σ.rows[i].np == 0 <;> simp [List.filter_cons, z]
      by_cases q : (σ.rows[i].np == 0) = true
      · rw [if_pos q]
        refine acc_emit (by rw [e2, cds_length, sizeLine_eq]; have := readyOf_len (σ.rows.take i); simp at this; exact o168 this hz) (e_attr (e_name rfl (x_slot A2.1 (Srt.node s hr) rfl (cd_handed _) ⟨rfl, ?_⟩)))
        rw [es, if_pos q, e2]; unfold cds; simp
      · rw [if_neg q]
        refine ⟨rfl, ?_⟩
        rw [es, if_neg q, e2, List.append_nil]
    · subst e1 e2
      intro b hb
      have el : (dictOfRows σ.rows).length = σ.rows.length := by unfold dictOfRows; simp
      rw [el, List.take_of_length_le (Nat.le_refl _)]
      have y1 : Sat (put H' b (.list (cds (readyOf σ.rows)))) ((b, .list (cds (readyOf σ.rows))) :: (σ.x, .inst 137 σ.dx) :: (σ.dx, .ns (nsOf σ.d .none σ.po σ.nf)) :: (σ.d, .dict (dictOfRows σ.rows) σ.ep) :: (rowsLay σ.rows ++ B)) := by
        have := s.new (o := .list (cds (readyOf σ.rows))) hb
        unfold Srt.lay at this
        rw [hrd] at this
        exact this
      refine a_attr (e_name rfl (x_set A.2.1 y1.at1 y1.at2 (by simp [nsOf]) ?_))
      have ep : putF "_ready_nodes" (.ref b) (nsOf σ.d .none σ.po σ.nf) = nsOf σ.d (.ref b) σ.po σ.nf := rfl
      rw [ep]
      have y2 := y1.set2 (.ns (nsOf σ.d (.ref b) σ.po σ.nf))
      have y3 : Sat _ (({ σ with rd := some (b, readyOf σ.rows) } : Srt).lay ++ B) := y2.perm (perm_rot [(b, O.list (cds (readyOf σ.rows)))] [(σ.x, O.inst 137 σ.dx), (σ.dx, .ns (nsOf σ.d (.ref b) σ.po σ.nf)), (σ.d, .dict (dictOfRows σ.rows) σ.ep)] (rowsLay σ.rows ++ B))
      obtain ⟨σ2, hσ2⟩ : ∃ z, z = ({ σ with rd := some (b, readyOf σ.rows) } : Srt) := ⟨_, rfl⟩
      have hx2 : σ2.x = σ.x ∧ σ2.rows = σ.rows := by rw [hσ2]; exact ⟨rfl, rfl⟩
      have hab : σ2.abs = { σ.abs with rd := some (readyOf σ.rows) } := by rw [hσ2]; rfl
      rw [← hσ2] at y3
      have e0 : σ.x = σ2.x := hx2.1.symm
      rw [e0]
      refine s_cons (s_assign (hF.loc rfl) rfl (e_meth (e_name rfl (me_ok (meth_inst M (Srt.inst y3) (Srt.ns y3) rfl) <| cw_plain (D.kp rfl) (l_nil (WCode.call (find_cycle_spec (σ := σ2) D (hF.lv hl rfl) (hF.hh hh) y3 (by rw [hab]; exact hk) (by rw [hx2.2]; exact hc) (by rw [hx2.2]; exact hw) (fun H' s' => ?_) (fun l xs H' s' hne hln => ?_))))))))
      · refine s_cons (s_if (t_val (e_name rfl (tr_none (s_nil (s_nil ?_))))))
        exact (h1 σ2 _ hx2.1 hab s').1
      · refine s_cons (s_if (t_val (e_name rfl (tr_list (.own s'.at0) (by exact o341 hln) ?_))))
        rw [if_pos (by cases xs with | nil => exact absurd rfl hne | cons => rfl)]
        refine s_cons (s_raise_own D.own PySem.F.excBase_ValueError (hF.hh hh) (hF.glo rfl) (l_cons (e_joined1 (e_str (l_cons (e_name rfl (l_nil ⟨by simp, ?_⟩)))))))
        exact (h1 σ2 _ hx2.1 hab (s'.tail (A := [_]))).2 _
end
end Mine
end
section
open PySem PySem.W PySem.Calls PyProof.Rows PySem.SeqAt
set_option linter.unusedSectionVars false
set_option linter.unusedVariables false
set_option maxRecDepth 100000
namespace Mine
variable [ζ : Dead]
theorem Srt.rd_none {σ : Srt} (h : σ.abs.rd = none) : σ.rd = none := by
  unfold Srt.abs at h
  simpa using h
section
variable {g : G}
theorem cyc_tup (D : Gd g) : Looks (model g.prog g.w) g.B (isInstance (.ref 55) (.type "tuple")) false := looks_instIn g.kin (by rw [D.K]; rfl)
theorem cyc_typ (D : Gd g) : Looks (model g.prog g.w) g.B (isType (.ref 55)) true := by
  have h : (clsIn g.K 55).isSome = true := by rw [D.K]; rfl
  obtain ⟨cd, hcd⟩ := Option.isSome_iff_exists.mp h
  unfold clsIn at hcd
  split at hcd
  · rename_i ho
    exact (Looks.ld (g.kin _ _ ho)).andThen .now
  · cases hcd
theorem cyc_cyc (D : Gd g) : Catches g (.ref 55) (.ref 55) true := ⟨cyc_tup D, cyc_typ D, by rw [D.K]; rfl, by rw [D.K]; rfl⟩
theorem ve_ve (D : Gd g) : Catches g (.type "ValueError") (.type "ValueError") true := ⟨(Looks.of_pure rfl : Looks _ _ (typeOf (.type "ValueError")) _).andThen (Looks.of_pure (by rw [isSubtype_type]; kernel_rfl)), Looks.now, by rw [D.K]; kernel_rfl, by rw [D.K]; kernel_rfl⟩
end
end Mine
end
section
open PySem PySem.W PySem.Calls PyProof.Rows PySem.SeqAt
set_option linter.unusedSectionVars false
set_option linter.unusedVariables false
set_option maxRecDepth 100000
namespace Mine
variable [ζ : Dead]
noncomputable def TyV (H : AH) : V → String → Prop
  | .none, T => T = "NoneType"
  | .bool _, T => T = "bool"
  | .int _, T => T = "int"
  | .pint _, T => T = "int"
  | .str _, T => T = "str"
  | .pstr _, T => T = "str"
  | .tup _, T => T = "tuple"
  | .ref a, T => (∃ xs, H a = some (.list xs) ∧ T = "list") ∨ ∃ as, H a = some (.exc (.type T) as)
  | _, _ => False
section
variable {g : G} {F : Fm} {m : Loc} {H : AH} {s : Shared} {X : Value → List V → Loc → AH → Prop} {Q : V → Loc → AH → Prop}
theorem TyV.is {x : V} {T : String} {v : Value} (S : St g F m H s) (t : TyV H x T) (r : VR s.heap x v) : s.TypeIs v T := by
  cases x with
  | none => cases t; rw [VR.none_iff] at r; subst r; rfl
  | bool => cases t; rw [VR.bool_iff] at r; subst r; rfl
  | int => cases t; rw [VR.int_iff] at r; obtain ⟨_, rfl⟩ := r; rfl
  | pint => cases t; rw [VR.pint_iff] at r; obtain ⟨_, rfl⟩ := r; rfl
  | str => cases t; rw [VR.str_iff] at r; obtain ⟨_, rfl⟩ := r; rfl
  | pstr => cases t; rw [VR.pstr_iff] at r; obtain ⟨_, rfl⟩ := r; rfl
  | tup => cases t; exact tupleT r
  | ref a =>
    rw [VR.ref_iff] at r; subst r
    rcases t with ⟨xs, e, rfl⟩ | ⟨as, e⟩
    · obtain ⟨vs, ep, e, _⟩ := S.listAt e; exact ⟨_, e, rfl⟩
    · obtain ⟨o, vs, v, e, c, _⟩ := (S.obj a _ e).2; exact ⟨o, e, c⟩
  | _ => exact t.elim
theorem c_type {x : V} {T : String} (t : TyV H x T) (hn : (Value.type T == Value.type "builtin_function_or_method") = false) (h : Q (.cst (.type T)) m H) : WC g F (.type "type") [x] m H Q X := wc1 fun s v S r =>
  call_type_of (t.is S r) hn (OkP.now S rfl rfl rfl (.cst' _) h)
theorem o_isT {T U : String} {b : Bool} (e : (Value.type T == Value.type U) = b) (h : Q (.bool b) m H) : W2 g F VR (.cst (.type T)) (.cst (.type U)) (compareOp .Is) m H Q X := fun s v u S r r' => by
  rw [VR.cst_iff] at r r'; subst r r'
  exact wpAny_is_plain rfl (by rw [e]; exact OkP.now S rfl rfl rfl (.bool' _) h)
theorem o_isnT {T U : String} {b : Bool} (e : (Value.type T == Value.type U) = b) (h : Q (.bool (!b)) m H) : W2 g F VR (.cst (.type T)) (.cst (.type U)) (compareOp .IsNot) m H Q X := fun s v u S r r' => by
  rw [VR.cst_iff] at r r'; subst r r'
  exact wpAny_isNot_plain rfl (by rw [e]; exact OkP.now S rfl rfl rfl (.bool' _) h)
theorem o_pow {n : Nat} (h0 : 1 ≤ n) (hn : n ≤ 20) (h : Q (.int (10 ^ n)) m H) : W2 g F VR (.int 10) (.int (n : Int)) (binaryOp .Pow) m H Q X := fun s v u S r r' => by
  rw [VR.int_iff] at r r'; obtain ⟨t, rfl⟩ := r; obtain ⟨t', rfl⟩ := r'
  refine AutoIntOps.pow_4 (by exact o169) (by simp; exact o170 h0) (by decide) (by decide) ?_ ?_
  · have e : Builtin.Int.intBits 10 = 4 := by decide +kernel
    rw [e]
    unfold Builtin.Int.intTooBig
    have : (bitsLine : Int) ≥ 1000 := by decide
    simp only [decide_eq_true_eq]
    omega
  · exact OkP.now S rfl rfl rfl (.int' _ _) h
theorem e_pairI {a b : Int} {k k1 k2 : Nat} {p p1 p2 : Pos} (h : Q (.tup [.int a, .pint b]) m H) : WE g F (eval (.Tuple [.Constant (.int a) k1 p1, .Constant (.int b) k2 p2] k p) F.env) m H Q X := fun s S => by
  have C : ∀ b' o, s.heap.get? b' = some o → (s.heap.push (tupObj [.int a s.toks, .int b (s.toks + 1)] 0)).get? b' = some o := fun _ _ e => Heap.get?_push_of_some _ e
  obtain ⟨S', k'⟩ := S.ext (t := s.toks + 1 + 1) C
  refine wpAny_Tuple (wpAny_items_cons (wpAny_Constant_int (wpAny_items_cons (wpAny_Constant_int (wpAny_items_nil ⟨Nat.le_of_ble_eq_true rfl, ?_⟩)) rfl)) rfl)
  exact ⟨.tup [.int a, .pint b], m, H, .tup' (S.okn (Nat.le_refl _)) (Heap.get?_push_size _ rfl) (.cons (.int' _ _) (.cons (VR.pint_iff.mpr ⟨_, rfl⟩) .nil')), S', k', h⟩
theorem e_pairS {a : Int} {b : Str} {k k1 k2 : Nat} {p p1 p2 : Pos} (h : Q (.tup [.int a, .pstr b]) m H) : WE g F (eval (.Tuple [.Constant (.int a) k1 p1, .Constant (.str b) k2 p2] k p) F.env) m H Q X := fun s S => by
  have C : ∀ b' o, s.heap.get? b' = some o → (s.heap.push (tupObj [.int a s.toks, .str b (s.toks + 1)] 0)).get? b' = some o := fun _ _ e => Heap.get?_push_of_some _ e
  obtain ⟨S', k'⟩ := S.ext (t := s.toks + 1 + 1) C
  refine wpAny_Tuple (wpAny_items_cons (wpAny_Constant_int (wpAny_items_cons (wpAny_mkText (wpAny_items_nil ⟨Nat.le_of_ble_eq_true rfl, ?_⟩)) rfl)) rfl)
  exact ⟨.tup [.int a, .pstr b], m, H, .tup' (S.okn (Nat.le_refl _)) (Heap.get?_push_size _ rfl) (.cons (.int' _ _) (.cons (VR.pstr_iff.mpr ⟨_, rfl⟩) .nil')), S', k', h⟩
theorem e_pairN {a b : Int} {k k1 k2 : Nat} {p p1 p2 p3 : Pos} (h : Q (.tup [.int a, .pint (-b)]) m H) : WE g F (eval (.Tuple [.Constant (.int a) k1 p1, .UnaryOp .USub (.Constant (.int b) k2 p2) p3] k p) F.env) m H Q X := fun s S => by
  have C : ∀ b' o, s.heap.get? b' = some o → (s.heap.push (tupObj [.int a s.toks, .int (-b) (s.toks + 1 + 1)] 0)).get? b' = some o := fun _ _ e => Heap.get?_push_of_some _ e
  obtain ⟨S', k'⟩ := S.ext (t := s.toks + 1 + 1 + 1) C
  refine wpAny_Tuple (wpAny_items_cons (wpAny_Constant_int (wpAny_items_cons (wpAny_UnaryOp (wpAny_Constant_int ?_)) rfl)) rfl)
  refine PySem.P.neg_int (wpAny_items_nil ⟨Nat.le_of_ble_eq_true rfl, ?_⟩)
  exact ⟨.tup [.int a, .pint (-b)], m, H, .tup' (S.okn (Nat.le_refl _)) (Heap.get?_push_size _ rfl) (.cons (.int' _ _) (.cons (VR.pint_iff.mpr ⟨_, rfl⟩) .nil')), S', k', h⟩
noncomputable def PureE (g : G) (F : Fm) (m : Loc) (H : AH) (X : Value → List V → Loc → AH → Prop) (e : Expr) (x : V) : Prop := ∀ Q : V → Loc → AH → Prop, Q x m H → WE g F (eval e F.env) m H Q X
inductive PL (g : G) (F : Fm) (m : Loc) (H : AH) (X : Value → List V → Loc → AH → Prop) : List Expr → List V → Prop
  | nil : PL g F m H X [] []
  | cons {e : Expr} {x : V} {es : List Expr} {xs : List V} (he : ∀ rest, starEach (e :: rest) F.env = (false, eval e F.env) :: starEach rest F.env) (h : PureE g F m H X e x) (t : PL g F m H X es xs) : PL g F m H X (e :: es) (x :: xs)
theorem l_vals {pos : Pos} {es : List Expr} {xs : List V} (p : PL g F m H X es xs) : ∀ {Q : List V → Loc → AH → Prop}, Q xs m H → WL g F (spliced (backTo pos (starEach es F.env))) m H Q X := by
  induction p with
  | nil => exact fun h => l_nil h
  | cons he h t ih => exact fun {Q} q => l_cons (h (kL g F pos _ Q X) (ih (Q := kC Q _) q)) (he _)
noncomputable def nm (i : Int) : V := .tup [.int (cl i), cd i]
noncomputable def nms (is : List Int) : List V := is.map nm
end
end Mine
end
section
open PySem PySem.W PySem.Calls PyProof.Rows PySem.SeqAt
set_option linter.unusedSectionVars false
set_option linter.unusedVariables false
set_option maxRecDepth 100000
namespace Mine
variable [ζ : Dead]
section
variable {g : G} {F : Fm} {m : Loc} {H : AH} {s : Shared} {X : Value → List V → Loc → AH → Prop} {Q : V → Loc → AH → Prop}
theorem law_names_spec (D : Gd g) (hl : F.lvl < 99) (h : ∀ l, H l = none → Q (.ref l) m (put H l (.list (nms [0, 1, 2, 3, 4, 5, 6, 7, 8, 9])))) : WCode g F (.ref 148) [] m H Q X := by
  refine d_code (D.lk rfl) (D.cd rfl) rfl rfl rfl rfl rfl rfl rfl (lv100 hl rfl) (binds_peek (fun vs => []) (fun vs S hv => ?_) (fun h vs r => rfl)) (bs := []) rfl fun F' hF => ?_
  · obtain rfl := List.eq_nil_of_length_eq_zero hv; rw [D.K]; rfl
  refine s_cons ?_
  refine s_ret ?_
  refine e_list ?_
  have hz : (nms [0, 1, 2, 3, 4, 5, 6, 7, 8, 9]).length ≤ sizeLine := by rw [sizeLine_eq]; simp [nms]
  generalize hN : nms [0, 1, 2, 3, 4, 5, 6, 7, 8, 9] = N at h hz
  refine l_vals (xs := N) ?p ?q
  case q => exact ⟨hz, fun l hl => h l hl⟩
  have hN : [.tup [.int 0, .pint 0], .tup [.int 1, .pint 1], .tup [.int 0, .bool false], .tup [.int 1, .bool true], .tup [.int 2, .tup [.int 0, .str "a"]], .tup [.int 2, .tup [.bool false, .str "a"]], .tup [.int 3, .pstr ""], .tup [.int 4, .none], .tup [.int 5, .pint (-1)], .tup [.int 6, .pint (-2)]] = N := hN
  subst hN
  refine .cons (fun _ => rfl) (fun Q q => e_pairI q) ?_
  refine .cons (fun _ => rfl) (fun Q q => e_pairI q) ?_
  refine .cons (fun _ => rfl) (fun Q q => e_tup (l_cons (e_int (l_cons (e_bool (l_nil ⟨Nat.le_of_ble_eq_true rfl, q⟩)))))) ?_
  refine .cons (fun _ => rfl) (fun Q q => e_tup (l_cons (e_int (l_cons (e_bool (l_nil ⟨Nat.le_of_ble_eq_true rfl, q⟩)))))) ?_
  refine .cons (fun _ => rfl) (fun Q q => e_tup (l_cons (e_int (l_cons (e_tup (l_cons (e_int (l_cons (e_str (l_nil ⟨Nat.le_of_ble_eq_true rfl, l_nil ⟨Nat.le_of_ble_eq_true rfl, q⟩⟩)))))))))) ?_
  refine .cons (fun _ => rfl) (fun Q q => e_tup (l_cons (e_int (l_cons (e_tup (l_cons (e_bool (l_cons (e_str (l_nil ⟨Nat.le_of_ble_eq_true rfl, l_nil ⟨Nat.le_of_ble_eq_true rfl, q⟩⟩)))))))))) ?_
  refine .cons (fun _ => rfl) (fun Q q => e_pairS q) ?_
  refine .cons (fun _ => rfl) (fun Q q => e_tup (l_cons (e_int (l_cons (e_none (l_nil ⟨Nat.le_of_ble_eq_true rfl, q⟩)))))) ?_
  refine .cons (fun _ => rfl) (fun Q q => e_pairN q) ?_
  exact .cons (fun _ => rfl) (fun Q q => e_pairN q) .nil
end
end Mine
end
section
open PySem PySem.W PySem.Calls PyProof.Rows PySem.SeqAt
set_option linter.unusedSectionVars false
set_option linter.unusedVariables false
set_option maxRecDepth 100000
namespace Mine
variable [ζ : Dead]
section
variable {g : G} {F : Fm} {m : Loc} {H : AH} {s : Shared} {X : Value → List V → Loc → AH → Prop}
theorem call_raw {x : Str} {T : String} {args : List Expr} {np pos : Pos} {QL : List V → Loc → AH → Prop} {R : Value → Shared → Prop} {H₀ : AH} {h₀ : Heap} (S : St g F m H s) (hk : F.env.kindOf x = some .globalImplicit) (hv : nsIn g.K mainGlobals x = some none) (hb : g.mb x = some (.type T))
    (h : WL g F (spliced (backTo pos (starEach args F.env))) m H QL X)
    (k : ∀ vs s₁ xs m₁ H₁, VRs s₁.heap xs vs → St g F m₁ H₁ s₁ → Keep F s.heap H s₁.heap H₁ → QL xs m₁ H₁ → wpAny (model g.prog g.w) F.A (call (.type T) vs) R (ErP g F X s.heap H) s₁)
    (hp : (backTo pos (starEach args F.env)).any (·.1) = false := by rfl) (hd : (x == ("__debug__" : Str)) = false := by decide)
    (he : eval (.Call (.Name x np) args [] pos) F.env = (eval (.Name x np) F.env >>= fun f => callWith pos f [] (backTo pos (starEach args F.env)) []) := by rfl) :
    wpAny (model g.prog g.w) F.A (eval (.Call (.Name x np) args [] pos) F.env) R (ErP g F X s.heap H) s := by
  rw [he]
  refine wpAny_bind ((e_blt (X := X) (pos := np) (Q := fun a m' H' => a = .cst (.type T) ∧ m' = m ∧ H' = H) hk hv hb ⟨rfl, rfl, rfl⟩ hd).run S (fun f s₁ a m₁ H₁ r₁ S₁ k₁ qq1 => qq1.elim fun e1 qq2 => qq2.elim fun e2 e3 => ?_) fun _ _ x => x)
  subst e1 e2 e3
  rw [VR.cst_iff] at r₁
  subst r₁
  refine callWith_of (P := g.K.In) (by rw [hp]; rfl) (Kp.type T) (evalArgs_all hp (h.run S₁ (fun vs s₂ xs m₂ H₂ r₂ S₂ k₂ h₂ => ⟨g.kin.keeps S₂.base, ?_⟩) fun _ _ x => x.after k₁))
  exact k vs s₂ xs m₂ H₂ r₂ S₂ (k₁.trans k₂) h₂
noncomputable def enumP (l e it : Addr) (i : Nat) (h : Heap) : Prop := ∃ old, IsEnum h e it i old ∧ h.IsListIter it l i
theorem two {p : Addr → Prop} {a b : Addr} (h : p a) (h' : p b) : ∀ c ∈ [a, b], p c := fun c hc => by
  rcases List.mem_cons.mp hc with rfl | hc
  · exact h
  · rw [List.mem_singleton] at hc; subst hc; exact h'
theorem iter_enum {l e it : Addr} {xs : List V} (h1 : okA e) (h2 : okA it) (hne : e ≠ it) (hh : F.A.handled = none) : Iter g F e [e, it] (enumP l e it) (fun H => H l = some (.list xs)) xs.length (fun i => .tup [.int i, xs.getD i .none]) tupT := by
  refine ⟨fun i h qq1 => qq1.elim fun old qq2 => qq2.elim fun p q => two ⟨_, p, fun _ _ z => (by cases z), fun _ z => (by cases z), fun z => (by have := z.cls; cases this)⟩ ?_, fun i h h' qq3 w _ => qq3.elim fun old qq4 => qq4.elim fun p qq5 => qq5.elim fun o qq6 => qq6.elim fun q r => ⟨old, (w e (.head _)).trans p, o, (w it (.tail _ (.head _))).trans q, r⟩, fun i m H s Q E hi S qq7 c hq => qq7.elim fun old qq8 => qq8.elim fun p q => ?_, fun i s Q E qq9 h => qq9.elim fun old qq10 => qq10.elim fun p q => wpAny_pyIter_enum p h, fun m H s Q E S qq11 c hq => qq11.elim fun old qq12 => qq12.elim fun p q => ?_⟩
  · obtain ⟨o, eo, co, dd⟩ := q
    exact ⟨o, eo, fun _ _ z => (by rw [dd] at z; cases z), fun _ z => (by rw [dd] at z; cases z), fun z => (by have := z.cls; rw [co] at this; cases this)⟩
  · obtain ⟨_, vs, ep, el, hr⟩ := S.obj l _ c
    obtain ⟨v, ev, rv⟩ := hr.getElem? (i := i) (x := xs[i]) (List.getElem?_eq_getElem hi)
    refine wpAny_pyNext_enum_item p q (items := vs.toArray) ⟨_, el, rfl, ep, rfl⟩ (x := v) (by simpa using ev) hne fun h' a1 a2 a3 a4 a5 => hq h' (s.toks + 1) _ fun target ht Q' E' k => ?_
    cases target <;> first | (cases ht; done) | skip
    rename_i elts cx pos
    refine wpAny_letOwnedTupleGo_enum (s := { s with heap := h', toks := s.toks + 1 }) a1 fun h'' b1 b2 => ?_
    have ltE := Heap.lt_size p
    have up : ∀ c o, s.heap.get? c = some o → c ∉ [e, it] → h''.get? c = some o := fun c o x n => (b2.2 c fun z => n (by rw [z]; exact .head _)).trans (a5 c o (fun z => n (by rw [z]; exact .head _)) (fun z => n (by rw [z]; exact .tail _ (.head _))) x)
    refine k h'' ?_ ⟨v, by rw [show ((i + 1 : Nat) : Int) = (i : Int) + 1 by exact o132]; exact b1, ?_⟩ up
    · refine .tup' (S.okn (Nat.le_refl _)) ((b2.2 _ (Nat.ne_of_gt ltE)).trans a3) (.cons (.int' _ _) (.cons ?_ .nil'))
      rw [List.getD_eq_getElem?_getD, List.getElem?_eq_getElem hi]
      refine rv.mono fun b o im eb => up b o eb fun z => ?_
      rcases List.mem_cons.mp z with rfl | z
      · rw [show s.heap.get? b = _ from p] at eb; cases eb; have := im.cls; cases this
      · rw [List.mem_singleton] at z; subst z; obtain ⟨o', e', c', _⟩ := q; rw [e'] at eb; cases eb; have := im.cls; rw [c'] at this; cases this
    · obtain ⟨o, eo, r⟩ := a2
      exact ⟨o, (b2.2 it (Ne.symm hne)).trans eo, r⟩
  · obtain ⟨_, vs, ep, el, hr⟩ := S.obj l _ c
    refine wpAny_pyNext_enum_end hh p q (items := vs.toArray) ⟨_, el, rfl, ep, rfl⟩ (by rw [List.getElem?_toArray, List.getElem?_eq_none]; rw [hr.length]; exact Nat.le_refl _) fun h' hs => hq h' s.toks (fun c o x n => hs c o (fun z => n (by rw [z]; exact .tail _ (.head _))) x) (two (.inl h1) (.inl h2))
theorem s_forEnum {target e : Expr} {body orelse : List Stmt} {np pos fpos : Pos} {Q : Fl → Loc → AH → Prop} (hst : F.stack ≠ []) (hh : F.A.handled = none) (ht : tupT target = true) (hk : F.env.kindOf "enumerate" = some .globalImplicit) (hv : nsIn g.K mainGlobals "enumerate" = some none) (hb : g.mb "enumerate" = some (.type "enumerate"))
    (hfs : ∀ x, foldedSetIterable (.Call (.Name "enumerate" np) [e] [] pos) F.env x = pure x)
    (h : WL g F (spliced (backTo pos (starEach [e] F.env))) m H (fun as m₁ H₁ => ∃ l xs J, as = [.ref l] ∧ (∀ i m H, J i m H → H l = some (.list xs)) ∧ J 0 m₁ H₁ ∧
      (∀ i m H, i < xs.length → J i m H → JTurn g F target body J Q X i (.tup [.int i, xs.getD i .none]) m H) ∧ ∀ m H, J xs.length m H → WS g F (execs orelse F.env) m H Q X) X)
    (hp : (backTo pos (starEach [e] F.env)).any (·.1) = false := by rfl)
    (he : eval (.Call (.Name "enumerate" np) [e] [] pos) F.env = (eval (.Name "enumerate" np) F.env >>= fun f => callWith pos f [] (backTo pos (starEach [e] F.env)) []) := by rfl) :
    WS g F (exec (.For target (.Call (.Name "enumerate" np) [e] [] pos) body orelse fpos) F.env) m H Q X := fun s S => by
  refine wpAny_For (call_raw (h₀ := s.heap) (H₀ := H) S hk hv hb h (fun vs s₁ as m₁ H₁ r₁ S₁ k₁ qq1 => qq1.elim fun l qq2 => qq2.elim fun xs qq3 => qq3.elim fun J qq4 => qq4.elim fun e1 qq5 => qq5.elim fun hl qq6 => qq6.elim fun j qq7 => qq7.elim fun turn fin => ?_) hp (by decide) he) hfs
  subst e1
  obtain ⟨v, r', rfl, rv, rr⟩ := r₁.uncons
  rw [VRs.nil_iff] at rr; subst rr
  rw [VR.ref_iff] at rv; subst rv
  obtain ⟨_, ws, ep, el, hr⟩ := S₁.obj l _ (hl _ _ _ j)
  refine call_enumerate_list (items := ws.toArray) ⟨_, el, rfl, ep, rfl⟩ fun h' ie il sz kp => ?_
  refine wpAny_pyIter_enum ie ?_
  obtain ⟨S₂, K₂⟩ := S₁.ext (t := s₁.toks) kp
  have n1 := S₁.lt (b := s₁.heap.objs.size + 1) (Nat.le_succ _)
  have n2 := S₁.lt (b := s₁.heap.objs.size) (Nat.le_refl _)
  have since : ∀ b, s₁.heap.get? b = none → s.heap.get? b = none := fun b e => by
    cases q : s.heap.get? b with
    | none => rfl
    | some o' => obtain ⟨o'', z⟩ := k₁.alive b o' q; rw [e] at z; cases z
  have nm : ∀ b, s₁.heap.get? b = none → b ∉ F.mine := fun b e q => by obtain ⟨_, _, o, e', _⟩ := S₁.mine b q; rw [e] at e'; cases e'
  exact for_core (iter_enum (xs := xs) (S₁.okn (Nat.le_succ _)) (S₁.okn (Nat.le_refl _)) (Nat.ne_of_gt (Nat.lt_succ_self _)) hh) ht hst hl (fun i m H hi hj => turn i m H hi hj) fin S₂ (k₁.trans K₂) S.base ⟨.none, ie, il⟩
    (two (since _ n1.2.2) (since _ n2.2.2)) (two n1.1 n2.1) (two (nm _ n1.2.2) (nm _ n2.2.2)) j
end
end Mine
end
section
open PySem PySem.W PySem.Calls PyProof.Rows PySem.SeqAt
set_option linter.unusedSectionVars false
set_option linter.unusedVariables false
set_option maxRecDepth 100000
namespace Mine
variable [ζ : Dead]
noncomputable def itName (T : String) : String := if T = "list" then "list_iterator" else "tuple_iterator"
noncomputable def FeedAt (T : String) (h : Heap) (it l : Addr) (k : Nat) : Prop := ∃ o, h.get? it = some o ∧ o.cls = .type (itName T) ∧ o.data = .fields #[.ref l, .int k 0]
noncomputable def SeqAt' (T : String) (h : Heap) (l : Addr) (vs : List Value) : Prop := ∃ o ep, h.get? l = some o ∧ o.cls = .type T ∧ o.data = .seq vs.toArray ep
noncomputable def LT (T : String) : Prop := T = "list" ∨ T = "tuple"
theorem FeedAt.keep {T : String} {h h' : Heap} {it l : Addr} {k : Nat} (x : FeedAt T h it l k) (e : ∀ o, h.get? it = some o → h'.get? it = some o) : FeedAt T h' it l k := (x).elim fun o qq1 => qq1.elim fun a r => ⟨o, e o a, r⟩
theorem SeqAt'.keep {T : String} {h h' : Heap} {l : Addr} {vs : List Value} (x : SeqAt' T h l vs) (e : ∀ o, h.get? l = some o → h'.get? l = some o) : SeqAt' T h' l vs := (x).elim fun o qq1 => qq1.elim fun ep qq2 => qq2.elim fun a r => ⟨o, ep, e o a, r⟩
section
variable {prog : Program} {w : World} {A : Around} {E : Value → Shared → Prop} {s : Shared}
theorem feed_item {T : String} {it l : Addr} {k : Nat} {vs : List Value} {x : Value} {Q : Value → Shared → Prop} (hT : LT T) (hi : FeedAt T s.heap it l k) (hl : SeqAt' T s.heap l vs) (hx : vs[k]? = some x)
    (hQ : ∀ h', FeedAt T h' it l (k + 1) → Heap.SameBut it s.heap h' → Q x { s with heap := h' }) : wpAny (model prog w) A (Builtin.SmallTypes.nextOf (.ref it)) Q E s := by
  obtain ⟨ol, ep, el, cl, dl⟩ := hl
  rcases hT with rfl | rfl
  · exact wpAny_nextOf_list_item (items := vs.toArray) hi ⟨ol, el, cl, ep, dl⟩ (by simpa using hx) hQ
  · obtain ⟨o, ho, hc, hd⟩ := hi
    have hTy : s.TypeIs (.ref it) "tuple_iterator" := ⟨o, ho, hc⟩
    unfold Builtin.SmallTypes.nextOf
    refine wpAny_bind (wpAny_callSpecial?_slot (name := Str.ofString "__next__") hTy F.slot_tuple_iterator_next (wpAny_call_entry F.slot_tuple_iterator_next hTy F.entry_tuple_iterator_next ?_ (F.args_tuple_iterator_next_1 _)))
    show wpAny _ _ (field (.ref it) 0 >>= _) _ _ s
    refine wpAny_bind (wpAny_field ho hd (x := .ref l) rfl ?_)
    show wpAny _ _ (if (Value.ref l == Value.none) = true then _ else _) _ _ s
    rw [if_neg (show ¬ ((Value.ref l == Value.none) = true) from Bool.false_ne_true)]
    show wpAny _ _ (field (.ref it) 1 >>= _) _ _ s
    refine wpAny_bind (wpAny_field ho hd (x := .int k 0) rfl ?_)
    show wpAny _ _ (seqItems? (.ref l) >>= _) _ _ s
    refine wpAny_bind (wpAny_seqItems el dl ?_)
    simp only [Int.toNat_natCast, List.getElem?_toArray, hx]
    refine wpAny_bind (wpAny_setField ho hd (Nat.le_of_ble_eq_true rfl) (wpAny_pure ⟨x, rfl, wpAny_pure (hQ _ ?_ (Heap.SameBut.update ..))⟩))
    exact ⟨_, Heap.get?_update_self _ ho (Obj.isFreed_of_fields (Obj.data_mapFields hd _)), (Obj.cls_mapFields ..).trans hc, by rw [Obj.data_mapFields hd]; simp [rawInt]⟩
theorem feed_end {T : String} {it l : Addr} {k : Nat} {vs : List Value} {Q : Value → Shared → Prop} (hh : A.handled = none) (hT : LT T) (hi : FeedAt T s.heap it l k) (hl : SeqAt' T s.heap l vs) (hx : vs[k]? = none)
    (hE : ∀ h' e, Heap.ExtBut it s.heap h' → (∃ o, h'.get? e = some o ∧ o.cls = .type "StopIteration") → E (.ref e) { s with heap := h' }) : wpAny (model prog w) A (Builtin.SmallTypes.nextOf (.ref it)) Q E s := by
  obtain ⟨ol, ep, el, cl, dl⟩ := hl
  rcases hT with rfl | rfl
  · exact wpAny_nextOf_list_end (items := vs.toArray) hh hi ⟨ol, el, cl, ep, dl⟩ (by simpa using hx) hE
  · obtain ⟨o, ho, hc, hd⟩ := hi
    have hTy : s.TypeIs (.ref it) "tuple_iterator" := ⟨o, ho, hc⟩
    unfold Builtin.SmallTypes.nextOf
    refine wpAny_bind (wpAny_callSpecial?_slot (name := Str.ofString "__next__") hTy F.slot_tuple_iterator_next (wpAny_call_entry F.slot_tuple_iterator_next hTy F.entry_tuple_iterator_next ?_ (F.args_tuple_iterator_next_1 _)))
    show wpAny _ _ (field (.ref it) 0 >>= _) _ _ s
    refine wpAny_bind (wpAny_field ho hd (x := .ref l) rfl ?_)
    show wpAny _ _ (if (Value.ref l == Value.none) = true then _ else _) _ _ s
    rw [if_neg (show ¬ ((Value.ref l == Value.none) = true) from Bool.false_ne_true)]
    show wpAny _ _ (field (.ref it) 1 >>= _) _ _ s
    refine wpAny_bind (wpAny_field ho hd (x := .int k 0) rfl ?_)
    show wpAny _ _ (seqItems? (.ref l) >>= _) _ _ s
    refine wpAny_bind (wpAny_seqItems el dl ?_)
    simp only [Int.toNat_natCast, List.getElem?_toArray, hx]
    refine wpAny_bind (wpAny_rule (wpAny_bind (wpAny_setField ho hd (Nat.le_of_ble_eq_true rfl) ?_)))
    show wpAny _ _ (newExc (.type "StopIteration") [] >>= _) _ _ _
    refine wpAny_bind ?_
    simp only [newExc, newTuple]
    refine wpAny_bind (wpAny_newObj_type ?_ (by size_fits))
    refine wpAny_bind (m := firstArgMember _ _) (wpAny_of_eq (a := Value.none) (by first | rfl | (simp only [firstArgMember]; rfl)) ?_)
    refine wpAny_newObj_type ?_ (by size_fits)
    simp only [raiseNew]
    refine wpAny_bind (wpAny_handled ?_)
    rw [show A.in1.handled = none from hh]
    refine wpAny_bind (wpAny_pure (wpAny_throw ?_))
    exact hE _ _ (((Heap.SameBut.update ..).extBut.push _).push _) ⟨_, Heap.get?_push_size _ rfl, rfl⟩
structure Zp (z TI TO i1 i2 : Addr) : Prop where
  a1 : TI ≠ z
  a2 : TO ≠ z
  a3 : i1 ≠ z
  a4 : i2 ≠ z
  a5 : TI ≠ TO
  a6 : TI ≠ i1
  a7 : TI ≠ i2
  a8 : TO ≠ i1
  a9 : TO ≠ i2
  a10 : i1 ≠ i2
noncomputable def zws (z TO i1 i2 : Addr) : List Addr := [z, TO, i1, i2]
theorem off4 {c z TO i1 i2 : Addr} (h : c ∉ zws z TO i1 i2) : c ≠ z ∧ c ≠ TO ∧ c ≠ i1 ∧ c ≠ i2 :=
  ⟨fun q => h (by rw [q]; exact .head _), fun q => h (by rw [q]; exact .tail _ (.head _)), fun q => h (by rw [q]; exact .tail _ (.tail _ (.head _))), fun q => h (by rw [q]; exact .tail _ (.tail _ (.tail _ (.head _))))⟩
theorem zip_item {T : String} {z TI TO i1 i2 l1 l2 : Addr} {k : Nat} {vs ws : List Value} {x y a b : Value} {Q : Option Value → Shared → Prop} (hT : LT T) (D : Zp z TI TO i1 i2) (o1 : l1 ∉ zws z TO i1 i2) (o2 : l2 ∉ zws z TO i1 i2)
    (hz : IsZip s.heap z TI TO .none) (hTI : IsPair s.heap TI (.ref i1) (.ref i2)) (hTO : IsPair s.heap TO a b) (f1 : FeedAt T s.heap i1 l1 k) (f2 : FeedAt T s.heap i2 l2 k) (s1 : SeqAt' T s.heap l1 vs) (s2 : SeqAt' T s.heap l2 ws) (hx : vs[k]? = some x) (hy : ws[k]? = some y)
    (hQ : ∀ h', IsZip h' z TI TO (rawInt s.heap.objs.size) → IsPair h' TO x y → FeedAt T h' i1 l1 (k + 1) → FeedAt T h' i2 l2 (k + 1) → IsPair h' s.heap.objs.size x y → (∀ c o, s.heap.get? c = some o → c ∉ zws z TO i1 i2 → h'.get? c = some o) → Q (some (.ref s.heap.objs.size)) { s with heap := h' }) :
    wpAny (model prog w) A (pyNext (.ref z)) Q E s := by
  have hTy : s.TypeIs (.ref z) "zip" := ⟨_, hz, rfl⟩
  have p1 := off4 o1
  have p2 := off4 o2
  unfold pyNext
  refine wpAny_bind (wpAny_attempt (wpAny_callSpecial?_slot (name := Str.ofString "__next__") hTy F.slot_zip_next (wpAny_call_entry F.slot_zip_next hTy F.entry_zip_next ?_ (F.args_zip_next_1 _))))
  show wpAny _ _ (field (.ref z) 2 >>= _) _ _ _
  refine wpAny_bind (wpAny_field hz rfl (x := .bool false) rfl ?_)
  show wpAny _ _ (field (.ref z) 3 >>= _) _ _ _
  refine wpAny_bind (wpAny_field hz rfl (x := .ref TI) rfl ?_)
  refine wpAny_bind (wpAny_seqItems hTI rfl ?_)
  show wpAny _ _ (Builtin.SmallTypes.ownedTupleIsFree (.ref z) >>= _) _ _ _
  unfold Builtin.SmallTypes.ownedTupleIsFree
  refine wpAny_bind (wpAny_bind (wpAny_field hz rfl (x := .none) rfl (wpAny_pure ?_)))
  simp only [if_true]
  refine wpAny_bind (wpAny_rule (wpAny_bind (wpAny_field hz rfl (x := .ref TO) rfl (wpAny_bind (wpAny_setField_rec hz (Nat.le_of_ble_eq_true rfl) fun h₁ e₁ b₁ => ?_)))))
  replace e₁ : IsZip h₁ z TI TO .ellipsis := e₁
  replace b₁ : Heap.SameBut z s.heap h₁ := b₁
  refine wpAny_bind ?_
  simp only [List.zipIdx_cons, List.zipIdx_nil, List.forIn_cons, List.forIn_nil]
  refine wpAny_bind (wpAny_bind (wpAny_onRaise ?_))
  show wpAny _ _ (Builtin.SmallTypes.nextOf (.ref i1) >>= _) _ _ _
  refine wpAny_bind (feed_item (s := { s with heap := h₁ }) hT (f1.keep fun o e => (b₁.2 _ D.a3).trans e) (s1.keep fun o e => (b₁.2 _ p1.1).trans e) hx fun h₂ g₂ b₂ => wpAny_pure ?_)
  replace b₂ : Heap.SameBut i1 h₁ h₂ := b₂
  have t₂ : IsPair h₂ TO a b := (b₂.2 _ D.a8).trans ((b₁.2 _ D.a2).trans hTO)
  refine wpAny_bind (wpAny_seqItems (s := { s with heap := h₂ }) t₂ rfl ?_)
  refine wpAny_bind (wpAny_updateSeq_pair (s := { s with heap := h₂ }) t₂ fun h₃ t₃ b₃ => ?_)
  replace t₃ : IsPair h₃ TO x b := t₃
  replace b₃ : Heap.SameBut TO h₂ h₃ := b₃
  refine wpAny_bind (wpAny_letGo (wpAny_pure ?_))
  refine wpAny_bind (wpAny_bind (wpAny_onRaise ?_))
  show wpAny _ _ (Builtin.SmallTypes.nextOf (.ref i2) >>= _) _ _ _
  refine wpAny_bind (feed_item (s := { s with heap := h₃ }) hT (f2.keep fun o e => (b₃.2 _ (Ne.symm D.a9)).trans ((b₂.2 _ (Ne.symm D.a10)).trans ((b₁.2 _ D.a4).trans e)))
    (s2.keep fun o e => (b₃.2 _ p2.2.1).trans ((b₂.2 _ p2.2.2.1).trans ((b₁.2 _ p2.1).trans e))) hy fun h₄ g₄ b₄ => wpAny_pure ?_)
  replace b₄ : Heap.SameBut i2 h₃ h₄ := b₄
  have t₄ : IsPair h₄ TO x b := (b₄.2 _ D.a9).trans t₃
  refine wpAny_bind (wpAny_seqItems (s := { s with heap := h₄ }) t₄ rfl ?_)
  refine wpAny_bind (wpAny_updateSeq_pair (s := { s with heap := h₄ }) t₄ fun h₅ t₅ b₅ => ?_)
  replace t₅ : IsPair h₅ TO x y := t₅
  replace b₅ : Heap.SameBut TO h₄ h₅ := b₅
  refine wpAny_bind (wpAny_letGo (wpAny_pure (wpAny_pure ?_)))
  refine wpAny_bind (wpAny_seqItems (s := { s with heap := h₅ }) t₅ rfl (wpAny_bind (wpAny_newTuple ?_)))
  have sz : h₅.objs.size = s.heap.objs.size := by rw [b₅.1, b₄.1, b₃.1, b₂.1, b₁.1]
  have e₅ : IsZip h₅ z TI TO .ellipsis := (b₅.2 _ (Ne.symm D.a2)).trans ((b₄.2 _ (Ne.symm D.a4)).trans ((b₃.2 _ (Ne.symm D.a2)).trans ((b₂.2 _ (Ne.symm D.a3)).trans e₁)))
  have k₅ : ∀ c o, s.heap.get? c = some o → c ∉ zws z TO i1 i2 → h₅.get? c = some o := fun c o e n => by
    obtain ⟨n1, n2, n3, n4⟩ := off4 n
    exact (b₅.2 _ n2).trans ((b₄.2 _ n4).trans ((b₃.2 _ n2).trans ((b₂.2 _ n3).trans ((b₁.2 _ n1).trans e))))
  have q1 : FeedAt T h₅ i1 l1 (k + 1) := g₂.keep fun o e => (b₅.2 _ (Ne.symm D.a8)).trans ((b₄.2 _ D.a10).trans ((b₃.2 _ (Ne.symm D.a8)).trans e))
  have q2 : FeedAt T h₅ i2 l2 (k + 1) := g₄.keep fun o e => (b₅.2 _ (Ne.symm D.a9)).trans e
  have zlt : z < h₅.objs.size := Heap.lt_size e₅
  show wpAny _ _ (Builtin.SmallTypes.ownedTupleHandOut (.ref z) (.ref h₅.objs.size) >>= _) _ _ _
  unfold Builtin.SmallTypes.ownedTupleHandOut
  have e₆ : IsZip (h₅.push { cls := .type "tuple", data := .seq #[x, y] }) z TI TO .ellipsis := Heap.get?_push_of_some _ e₅
  refine wpAny_bind (wpAny_bind (wpAny_setField_rec (s := { s with heap := h₅.push { cls := .type "tuple", data := .seq #[x, y] } }) e₆ (Nat.le_of_ble_eq_true rfl) fun h₇ e₇ b₇ => ?_))
  replace e₇ : IsZip h₇ z TI TO (rawInt h₅.objs.size) := e₇
  replace b₇ : Heap.SameBut z (h₅.push { cls := .type "tuple", data := .seq #[x, y] }) h₇ := b₇
  refine wpAny_setField_rec (s := { s with heap := h₇ }) e₇ (Nat.le_of_ble_eq_true rfl) fun h₈ e₈ b₈ => ?_
  replace e₈ : IsZip h₈ z TI TO (rawInt h₅.objs.size) := e₈
  replace b₈ : Heap.SameBut z h₇ h₈ := b₈
  have up : ∀ c o, h₅.get? c = some o → c ≠ z → h₈.get? c = some o := fun c o e n => (b₈.2 _ n).trans ((b₇.2 _ n).trans (Heap.get?_push_of_some _ e))
  have t₈ : IsPair h₈ h₅.objs.size x y := (b₈.2 _ (Nat.ne_of_gt zlt)).trans ((b₇.2 _ (Nat.ne_of_gt zlt)).trans (Heap.get?_push_size _ rfl))
  rw [sz] at e₈ t₈
  refine wpAny_pure ⟨_, rfl, wpAny_pure ?_⟩
  show Q (some (.ref h₅.objs.size)) _
  rw [sz]
  exact hQ h₈ e₈ (up _ _ t₅ D.a2) (q1.keep fun o e => up _ o e D.a3) (q2.keep fun o e => up _ o e D.a4) t₈ fun c o e n => up c o (k₅ c o e n) (off4 n).1
theorem zip_end {T : String} {z TI TO i1 i2 l1 : Addr} {k : Nat} {vs : List Value} {Q : Option Value → Shared → Prop} (hh : A.handled = none) (hT : LT T) (D : Zp z TI TO i1 i2) (o1 : l1 ∉ zws z TO i1 i2)
    (hz : IsZip s.heap z TI TO .none) (hTI : IsPair s.heap TI (.ref i1) (.ref i2)) (f1 : FeedAt T s.heap i1 l1 k) (s1 : SeqAt' T s.heap l1 vs) (hx : vs[k]? = none)
    (hQ : ∀ h', (∀ c o, s.heap.get? c = some o → c ≠ z → c ≠ i1 → h'.get? c = some o) → Q none { s with heap := h' }) : wpAny (model prog w) A (pyNext (.ref z)) Q E s := by
  have hTy : s.TypeIs (.ref z) "zip" := ⟨_, hz, rfl⟩
  have p1 := off4 o1
  unfold pyNext
  refine wpAny_bind (wpAny_attempt (wpAny_callSpecial?_slot (name := Str.ofString "__next__") hTy F.slot_zip_next (wpAny_call_entry F.slot_zip_next hTy F.entry_zip_next ?_ (F.args_zip_next_1 _))))
  show wpAny _ _ (field (.ref z) 2 >>= _) _ _ _
  refine wpAny_bind (wpAny_field hz rfl (x := .bool false) rfl ?_)
  show wpAny _ _ (field (.ref z) 3 >>= _) _ _ _
  refine wpAny_bind (wpAny_field hz rfl (x := .ref TI) rfl ?_)
  refine wpAny_bind (wpAny_seqItems hTI rfl ?_)
  show wpAny _ _ (Builtin.SmallTypes.ownedTupleIsFree (.ref z) >>= _) _ _ _
  unfold Builtin.SmallTypes.ownedTupleIsFree
  refine wpAny_bind (wpAny_bind (wpAny_field hz rfl (x := .none) rfl (wpAny_pure ?_)))
  simp only [if_true]
  refine wpAny_bind (wpAny_rule (wpAny_bind (wpAny_field hz rfl (x := .ref TO) rfl (wpAny_bind (wpAny_setField_rec hz (Nat.le_of_ble_eq_true rfl) fun h₁ e₁ b₁ => ?_)))))
  replace e₁ : IsZip h₁ z TI TO .ellipsis := e₁
  replace b₁ : Heap.SameBut z s.heap h₁ := b₁
  refine wpAny_bind ?_
  simp only [List.zipIdx_cons, List.zipIdx_nil, List.forIn_cons, List.forIn_nil]
  refine wpAny_bind (wpAny_bind (wpAny_onRaise ?_))
  show wpAny _ _ (Builtin.SmallTypes.nextOf (.ref i1) >>= _) _ _ _
  refine wpAny_bind (feed_end (s := { s with heap := h₁ }) hh hT (f1.keep fun o e => (b₁.2 _ D.a3).trans e) (s1.keep fun o e => (b₁.2 _ p1.1).trans e) hx fun h₂ e b₂ qq1 => qq1.elim fun oe qq2 => qq2.elim fun he ce => ?_)
  have e₂ : IsZip h₂ z TI TO .ellipsis := b₂ _ _ (Ne.symm D.a3) e₁
  have nez : e ≠ z := fun q => by subst q; have e₃ := Option.some.inj (he.symm.trans e₂); rw [e₃] at ce; simp at ce
  refine wpAny_setField_rec (s := { s with heap := h₂ }) e₂ (Nat.le_of_ble_eq_true rfl) fun h₃ _ b₃ => ?_
  replace b₃ : Heap.SameBut z h₂ h₃ := b₃
  refine wpAny_bind (wpAny_isInstance (T := "StopIteration") (b := true) ⟨oe, (b₃.2 _ nez).trans he, ce⟩ isSubtype_stop ?_)
  exact wpAny_pure (hQ _ fun c o x n1 n2 => (b₃.2 _ n1).trans (b₂ c o n2 ((b₁.2 _ n1).trans x)))
end
end Mine
end
section
open PySem PySem.W PySem.Calls PyProof.Rows PySem.SeqAt
set_option linter.unusedSectionVars false
set_option linter.unusedVariables false
set_option maxRecDepth 100000
namespace Mine
variable [ζ : Dead]
noncomputable abbrev zt1 (h : Heap) (l1 : Addr) : Heap := h.push { cls := .type "tuple_iterator", data := .fields #[.ref l1, .int 0 0] }
noncomputable abbrev zt2 (h : Heap) (l1 l2 : Addr) : Heap := (zt1 h l1).push { cls := .type "tuple_iterator", data := .fields #[.ref l2, .int 0 0] }
noncomputable abbrev zt3 (h : Heap) (l1 l2 : Addr) : Heap := (zt2 h l1 l2).push { cls := .type "tuple", data := .seq #[.ref h.objs.size, .ref (zt1 h l1).objs.size] }
noncomputable abbrev zt4 (h : Heap) (l1 l2 : Addr) : Heap := (zt3 h l1 l2).push { cls := .type "tuple", data := .seq #[.none, .none] }
noncomputable abbrev zt5 (h : Heap) (l1 l2 : Addr) : Heap := (zt4 h l1 l2).push { cls := .type "zip", data := .fields #[.none, .bool false, .bool false, .ref (zt2 h l1 l2).objs.size, .ref (zt3 h l1 l2).objs.size] }
theorem meets_zipT (l1 l2 : Addr) (xs ys : Array Value) :
    Meets (Builtin.«zip.__new__» ⟨[.type "zip", .ref l1, .ref l2], []⟩) (fun _ R s => s.heap.IsTuple l1 xs ∧ s.heap.IsTuple l2 ys ∧
      R (.ok (.ret (.ref (zt4 s.heap l1 l2).objs.size))) { s with heap := zt5 s.heap l1 l2 }) :=
  .of_wp fun prog w A R s h => by
    obtain ⟨hp, g, d, tk, os⟩ := s; obtain ⟨hl1, hl2, h⟩ := h
    have hsub := sub_zip
    have hL1 : Heap.IsTuple (Shared.heap ⟨hp, g, d, tk, os⟩) l1 xs := hl1
    have hL2 : Heap.IsTuple (Shared.heap ⟨hp.push { cls := .type "tuple_iterator", data := .fields #[.ref l1, .int 0 0] }, g, d, tk, os⟩) l2 ys := Heap.IsTuple.push hl2 _
    wp_walk using wpAny_pyIter_tuple hL1, wpAny_pyIter_tuple hL2
    exact ⟨_, rfl, h⟩
section
variable {prog : Program} {w : World} {A : Around} {E : Value → Shared → Prop} {s : Shared}
theorem call_zipT {T : String} {l1 l2 : Addr} {vs ws : List Value} {Q : Value → Shared → Prop} (hT : LT T) (s1 : SeqAt' T s.heap l1 vs) (s2 : SeqAt' T s.heap l2 ws)
    (h : ∀ h', IsZip h' (s.heap.objs.size + 4) (s.heap.objs.size + 2) (s.heap.objs.size + 3) .none → IsPair h' (s.heap.objs.size + 2) (.ref s.heap.objs.size) (.ref (s.heap.objs.size + 1)) →
      IsPair h' (s.heap.objs.size + 3) .none .none → FeedAt T h' s.heap.objs.size l1 0 → FeedAt T h' (s.heap.objs.size + 1) l2 0 → h'.objs.size = s.heap.objs.size + 5 →
      (∀ c o, s.heap.get? c = some o → h'.get? c = some o) → Q (.ref (s.heap.objs.size + 4)) { s with heap := h' }) :
    wpAny (model prog w) A (call (.type "zip") [.ref l1, .ref l2]) Q E s := by
  obtain ⟨o1, p1, e1, c1, d1⟩ := s1
  obtain ⟨o2, p2, e2, c2, d2⟩ := s2
  rcases hT with rfl | rfl
  · exact call_zip_2 (xs := vs.toArray) (ys := ws.toArray) ⟨o1, e1, c1, p1, d1⟩ ⟨o2, e2, c2, p2, d2⟩ h
  · refine callType_new F.called_zip (by decide) (F.typeCall_zip_2 _ _) (F.newCall_zip_2 _ _) (fun obj => F.args_object_init_3 obj _ _) F.entry_zip_new
      (meets_zipT l1 l2 vs.toArray ws.toArray) ⟨⟨o1, e1, c1, p1, d1⟩, ⟨o2, e2, c2, p2, d2⟩, ?_⟩
    have z1 : (zt1 s.heap l1).objs.size = s.heap.objs.size + 1 := Heap.size_push ..
    have z2 : (zt2 s.heap l1 l2).objs.size = s.heap.objs.size + 2 := by rw [Heap.size_push, z1]
    have z3 : (zt3 s.heap l1 l2).objs.size = s.heap.objs.size + 3 := by rw [Heap.size_push, z2]
    have z4 : (zt4 s.heap l1 l2).objs.size = s.heap.objs.size + 4 := by rw [Heap.size_push, z3]
    have z5 : (zt5 s.heap l1 l2).objs.size = s.heap.objs.size + 5 := by rw [Heap.size_push, z4]
    have u : ∀ {h : Heap} {o o' : Obj} {c : Addr}, h.get? c = some o → (h.push o').get? c = some o := fun e => Heap.get?_push_of_some _ e
    have g5 : (zt5 s.heap l1 l2).get? (zt4 s.heap l1 l2).objs.size = some _ := Heap.get?_push_size _ rfl
    have g4 : (zt5 s.heap l1 l2).get? (zt3 s.heap l1 l2).objs.size = some _ := u (Heap.get?_push_size _ rfl)
    have g3 : (zt5 s.heap l1 l2).get? (zt2 s.heap l1 l2).objs.size = some _ := u (u (Heap.get?_push_size _ rfl))
    have g2 : (zt5 s.heap l1 l2).get? (zt1 s.heap l1).objs.size = some _ := u (u (u (Heap.get?_push_size _ rfl)))
    have g1 : (zt5 s.heap l1 l2).get? s.heap.objs.size = some _ := u (u (u (u (Heap.get?_push_size _ rfl))))
    show _ ∧ _
    rw [z2, z3, z4] at g5
    rw [z1, z2] at g3
    rw [z3] at g4
    rw [z1] at g2
    rw [z4]
    exact ⟨⟨_, g5, rfl⟩, h _ g5 g3 g4 ⟨_, g1, rfl, rfl⟩ ⟨_, g2, rfl, rfl⟩ z5 fun c o x => u (u (u (u (u x))))⟩
end
end Mine
end
section
open PySem PySem.W PySem.Calls PyProof.Rows PySem.SeqAt
set_option linter.unusedSectionVars false
set_option linter.unusedVariables false
set_option maxRecDepth 100000
namespace Mine
section
variable [ζ : Dead]
variable {g : G} {F : Fm} {m : Loc} {H : AH} {s : Shared} {X : Value → List V → Loc → AH → Prop}
noncomputable def SrcP (T : String) (h : Heap) (l : Addr) (xs : List V) : Prop := T = "tuple" → VR h (.tup xs) (.ref l)
noncomputable def SrcC (T : String) (H : AH) (l : Addr) (xs : List V) : Prop := T = "list" → H l = some (.list xs)
theorem src_at {T : String} {l : Addr} {xs : List V} (hT : LT T) (S : St g F m H s) (p : SrcP T s.heap l xs) (c : SrcC T H l xs) : ∃ vs, SeqAt' T s.heap l vs ∧ VRs s.heap xs vs := by
  rcases hT with rfl | rfl
  · obtain ⟨_, vs, ep, e, r⟩ := S.obj l _ (c rfl)
    exact ⟨vs, ⟨_, ep, e, rfl, rfl⟩, r⟩
  · obtain ⟨a, vs, ep, q, e, r⟩ := VR.tup_of (p rfl)
    cases q
    exact ⟨vs, ⟨_, ep, e, rfl, rfl⟩, r⟩
theorem FeedAt.odd {T : String} {h : Heap} {it l : Addr} {k : Nat} (hT : LT T) (x : FeedAt T h it l k) : ∃ o, h.get? it = some o ∧ Odd it o := by
  obtain ⟨o, e, c, d⟩ := x
  refine ⟨o, e, fun _ _ z => (by rw [d] at z; cases z), fun _ z => (by rw [d] at z; cases z), fun z => ?_⟩
  have := z.cls
  rw [c] at this
  rcases hT with rfl | rfl <;> cases this
structure ZipP (T : String) (z TI TO i1 i2 l1 l2 : Addr) (xs ys : List V) (k : Nat) (h : Heap) (a b : Value) : Prop where
  z : IsZip h z TI TO .none
  ti : IsPair h TI (.ref i1) (.ref i2)
  to' : IsPair h TO a b
  f1 : FeedAt T h i1 l1 k
  f2 : FeedAt T h i2 l2 k
  s1 : SrcP T h l1 xs
  s2 : SrcP T h l2 ys
theorem four {p : Addr → Prop} {z TO i1 i2 : Addr} (h1 : p z) (h2 : p TO) (h3 : p i1) (h4 : p i2) : ∀ c ∈ zws z TO i1 i2, p c := fun c hc => by
  rcases List.mem_cons.mp hc with rfl | hc
  · exact h1
  rcases List.mem_cons.mp hc with rfl | hc
  · exact h2
  rcases List.mem_cons.mp hc with rfl | hc
  · exact h3
  · rw [List.mem_singleton] at hc; subst hc; exact h4
theorem iter_zip {T : String} {z TI TO i1 i2 l1 l2 : Addr} {xs ys : List V} (hT : LT T) (D : Zp z TI TO i1 i2) (o1 : l1 ∉ zws z TO i1 i2) (o2 : l2 ∉ zws z TO i1 i2) (kz : okA z) (k1 : okA i1) (k2 : okA i2) (kT : okA TI) (bad : TO ∈ ζ.bad) (hlen : xs.length = ys.length) (hh : F.A.handled = none) :
    Iter g F z (zws z TO i1 i2) (fun k h => ∃ a b, ZipP T z TI TO i1 i2 l1 l2 xs ys k h a b) (fun H => SrcC T H l1 xs ∧ SrcC T H l2 ys) xs.length (fun i => .tup [xs.getD i .none, ys.getD i .none]) tupT := by
  have odd : ∀ {k h a b}, ZipP T z TI TO i1 i2 l1 l2 xs ys k h a b → ∀ c ∈ zws z TO i1 i2, ∃ o, h.get? c = some o ∧ Odd c o := fun {k h a b} p => four
    ⟨_, p.z, fun _ _ q => (by cases q), fun _ q => (by cases q), fun q => (by have := q.cls; cases this)⟩
    ⟨_, p.to', fun _ _ q => (by cases q), fun _ q => (by cases q), fun q => Imm.ok (vs := [a, b]) (ep := 0) q bad⟩ (p.f1.odd hT) (p.f2.odd hT)
  have imm : ∀ {k h a b}, ZipP T z TI TO i1 i2 l1 l2 xs ys k h a b → ∀ c o, Imm c o → h.get? c = some o → c ∉ zws z TO i1 i2 := fun p c o i e q => by
    obtain ⟨o', e', d⟩ := odd p c q
    rw [e] at e'; cases e'; exact d.ni i
  refine ⟨fun i h qq1 => qq1.elim fun a qq2 => qq2.elim fun b p => odd p, fun i h h' qq3 w k => qq3.elim fun a qq4 => qq4.elim fun b p => ?_, fun i m H s Q E hi S qq5 c hq => qq5.elim fun a qq6 => qq6.elim fun b p => ?_, fun i s Q E qq7 h => qq7.elim fun a qq8 => qq8.elim fun b p => wpAny_pyIter_zip p.z h, fun m H s Q E S qq9 c hq => qq9.elim fun a qq10 => qq10.elim fun b p => ?_⟩
  · have w1 := w z (.head _)
    have w2 := w TO (.tail _ (.head _))
    have w3 := w i1 (.tail _ (.tail _ (.head _)))
    have w4 := w i2 (.tail _ (.tail _ (.tail _ (.head _))))
    exact ⟨a, b, w1.trans p.z, k.tup _ _ (.tup [.ref i1, .ref i2] 0 kT) p.ti, w2.trans p.to', p.f1.keep fun o e => w3.trans e, p.f2.keep fun o e => w4.trans e, fun t => (p.s1 t).mono k.tup, fun t => (p.s2 t).mono k.tup⟩
  · obtain ⟨vs, q1, r1⟩ := src_at hT S p.s1 c.1
    obtain ⟨ws, q2, r2⟩ := src_at hT S p.s2 c.2
    have hi' : i < ys.length := by rw [← hlen]; exact hi
    obtain ⟨v, ev, rv⟩ := r1.getElem? (i := i) (x := xs[i]) (List.getElem?_eq_getElem hi)
    obtain ⟨u, eu, ru⟩ := r2.getElem? (i := i) (x := ys[i]) (List.getElem?_eq_getElem hi')
    refine zip_item hT D o1 o2 p.z p.ti p.to' p.f1 p.f2 q1 q2 ev eu fun h' a1 a2 a3 a4 a5 a6 => hq h' s.toks _ fun target ht Q' E' k => ?_
    cases target <;> first | (cases ht; done) | skip
    rename_i elts cx pos
    refine wpAny_letOwnedTupleGo_zip (s := { s with heap := h', toks := s.toks }) a1 fun h'' b1 b2 => ?_
    have ltz := Heap.lt_size p.z
    have up : ∀ c o, s.heap.get? c = some o → c ∉ zws z TO i1 i2 → h''.get? c = some o := fun c o e n => (b2.2 c (off4 n).1).trans (a6 c o e n)
    have tup : ∀ c o, Imm c o → s.heap.get? c = some o → h''.get? c = some o := fun c o i e => up c o e (imm p c o i e)
    refine k h'' ?_ ⟨v, u, b1, up _ _ p.ti ?_, (b2.2 _ D.a2).trans a2, a3.keep fun o e => (b2.2 _ D.a3).trans e, a4.keep fun o e => (b2.2 _ D.a4).trans e, fun t => (p.s1 t).mono tup, fun t => (p.s2 t).mono tup⟩ up
    · refine .tup' (S.okn (Nat.le_refl _)) ((b2.2 _ (Nat.ne_of_gt ltz)).trans a5) ?_
      rw [List.getD_eq_getElem?_getD, List.getElem?_eq_getElem hi, List.getD_eq_getElem?_getD, List.getElem?_eq_getElem hi']
      exact .cons (rv.mono tup) (.cons (ru.mono tup) .nil')
    · exact imm p _ _ (.tup [.ref i1, .ref i2] 0 kT) p.ti
  · obtain ⟨vs, q1, r1⟩ := src_at hT S p.s1 c.1
    refine zip_end hh hT D o1 p.z p.ti p.f1 q1 (List.getElem?_eq_none (by rw [r1.length]; exact Nat.le_refl _)) fun h' hs => hq h' s.toks (fun c o e n => hs c o e (off4 n).1 (off4 n).2.2.1) (four (.inl kz) (.inr ⟨_, hs _ _ p.to' D.a2 D.a8⟩) (.inl k1) (.inl k2))
theorem ne_add (n : Nat) {a b : Nat} (h : a ≠ b) : n + a ≠ n + b := fun q => h (Nat.add_left_cancel q)
theorem zpD (n : Nat) : Zp (n + 4) (n + 2) (n + 3) n (n + 1) :=
  ⟨ne_add n (a := 2) (b := 4) (by decide), ne_add n (a := 3) (b := 4) (by decide), ne_add n (a := 0) (b := 4) (by decide), ne_add n (a := 1) (b := 4) (by decide), ne_add n (a := 2) (b := 3) (by decide), ne_add n (a := 2) (b := 0) (by decide), ne_add n (a := 2) (b := 1) (by decide), ne_add n (a := 3) (b := 0) (by decide), ne_add n (a := 3) (b := 1) (by decide), ne_add n (a := 0) (b := 1) (by decide)⟩
theorem zws_in {n b : Nat} (q : b ∈ zws (n + 4) (n + 3) n (n + 1)) : n ≤ b ∧ b < n + 5 := by
  have q : b ∈ [n + 4, n + 3, n, n + 1] := q
  simp only [List.mem_cons, List.not_mem_nil, or_false] at q
  exact o171 q
theorem zws_new {n l : Nat} (h : l < n) : l ∉ zws (n + 4) (n + 3) n (n + 1) := fun q => absurd h (Nat.not_lt.mpr (zws_in q).1)
noncomputable def SrcV (T : String) (H : AH) (a : V) (xs : List V) : Prop := (T = "list" ∧ ∃ l, a = .ref l ∧ H l = some (.list xs)) ∨ (T = "tuple" ∧ a = .tup xs)
theorem SrcV.at {T : String} {a : V} {xs : List V} {h : Heap} {v : Value} (x : SrcV T H a xs) (r : VR h a v) : LT T ∧ ∃ l, v = .ref l ∧ SrcP T h l xs ∧ ∀ H', SrcV T H' a xs → SrcC T H' l xs := by
  rcases x with ⟨rfl, l, rfl, e⟩ | ⟨rfl, rfl⟩
  · rw [VR.ref_iff] at r
    refine ⟨.inl rfl, l, r, fun q => absurd q (by decide), fun H' y _ => ?_⟩
    rcases y with ⟨_, l', q, e'⟩ | ⟨q, _⟩
    · cases q; exact e'
    · exact absurd q (by decide)
  · have r' := r
    obtain ⟨a, vs, ep, e, _⟩ := VR.tup_of r
    subst e
    exact ⟨.inr rfl, a, rfl, fun _ => r', fun H' _ q => absurd q (by decide)⟩
theorem SrcP.lt {T : String} {h : Heap} {l : Addr} {xs : List V} (hT : LT T) (S : St g F m H s) (p : SrcP T s.heap l xs) (c : SrcC T H l xs) : l < s.heap.objs.size := by
  obtain ⟨vs, ⟨o, ep, e, _⟩, _⟩ := src_at hT S p c
  exact Heap.lt_size e
theorem e_compZip {elt target e1 e2 : Expr} {ifs : List Expr} {tail : Fm → Addr → Sem Unit} {rest : List Comprehension} {scope : Scope} {pos np cpos : Pos} {Q : V → Loc → AH → Prop} (ht : tupT target = true)
    (hd : CompHead F scope) (hfs : ∀ x, foldedSetIterable (.Call (.Name "zip" np) [e1, e2] [] cpos) F.env x = pure x) (hh : F.A.handled = none) (hs : F.stack ≠ [])
    (hct : ∀ Fc acc it, compTurn (.ListComp elt (⟨target, .Call (.Name "zip" np) [e1, e2] [] cpos, ifs, 0⟩ :: rest) scope pos) 0 it (.ref acc) Fc.env = turnTree target (.Call (.Name "zip" np) [e1, e2] [] cpos) ifs it (tail Fc acc) (.ListComp elt (⟨target, .Call (.Name "zip" np) [e1, e2] [] cpos, ifs, 0⟩ :: rest) scope pos) 0 (.ref acc) Fc.env)
    (hk : F.env.kindOf "zip" = some .globalImplicit) (hv : nsIn g.K mainGlobals "zip" = some none) (hb : g.mb "zip" = some (.type "zip"))
    (h : WL g F (spliced (backTo cpos (starEach [e1, e2] F.env))) m H (fun as m₁ H₁ => ∃ (T : String) (a1 a2 : V) (xs ys : List V) (J : Nat → List V → Loc → AH → Prop), as = [a1, a2] ∧ xs.length = ys.length ∧
      (∀ i zs m H, J i zs m H → SrcV T H a1 xs ∧ SrcV T H a2 ys) ∧ J 0 [] (compLoc scope m₁) H₁ ∧
      (∀ ζ₂ : Dz, ∀ Fc acc, CompOf Fc F scope → ∀ i zs m H, i < xs.length → J i zs m H → @WA ζ₂ g Fc target (.tup [xs.getD i .none, ys.getD i .none]) m H (fun m H => @WB ζ₂ g Fc (testsOf ifs Fc.env) m H (fun ok m H => if ok then @WAcc ζ₂ g Fc acc (tail Fc acc) zs m H (fun zs m H => J (i + 1) zs m H) (fun c as _ H => X c as m₁ H) else J (i + 1) zs m H) (fun c as _ H => X c as m₁ H)) (fun c as _ H => X c as m₁ H)) ∧
      ∀ zs m H, J xs.length zs m H → ∀ b, H b = none → Q (.ref b) m₁ (put H b (.list zs))) X)
    (hp : (backTo cpos (starEach [e1, e2] F.env)).any (·.1) = false := by rfl)
    (he : eval (.Call (.Name "zip" np) [e1, e2] [] cpos) F.env = (eval (.Name "zip" np) F.env >>= fun f => callWith cpos f [] (backTo cpos (starEach [e1, e2] F.env)) []) := by rfl) :
    WE g F (eval (.ListComp elt (⟨target, .Call (.Name "zip" np) [e1, e2] [] cpos, ifs, 0⟩ :: rest) scope pos) F.env) m H Q X := fun s S => by
  rw [eval_ListComp]
  refine comp_frame (use := none) (Qy := fun ys m H => ∀ b, H b = none → Q (.ref b) m (put H b (.list ys))) hd hfs hh hs hct S
    (call_raw (h₀ := s.heap) (H₀ := H) S hk hv hb h (fun vs s₁ as m₁ H₁ r₁ S₁ k₁ hx => ?_) hp (by decide) he)
    fun acc C s' ys m' H' S' K' nA oA q nC ne ⟨mc, hn⟩ off => ⟨mc, hn, fun h' mc' hn' hsb => ?_⟩
  · obtain ⟨T, a1, a2, xs, ys, J, rfl, hlen, hJ, j, turn, fin⟩ := hx
    obtain ⟨v1, r', rfl, rv1, rr⟩ := r₁.uncons
    obtain ⟨v2, r', rfl, rv2, rr⟩ := rr.uncons
    rw [VRs.nil_iff] at rr; subst rr
    obtain ⟨j1, j2⟩ := hJ _ _ _ _ j
    obtain ⟨hT, l1, rfl, p1, c1⟩ := j1.at rv1
    obtain ⟨_, l2, rfl, p2, c2⟩ := j2.at rv2
    have lt1 := SrcP.lt (h := s₁.heap) hT S₁ p1 (c1 _ j1)
    have lt2 := SrcP.lt (h := s₁.heap) hT S₁ p2 (c2 _ j2)
    obtain ⟨vs, q1, _⟩ := src_at hT S₁ p1 (c1 _ j1)
    obtain ⟨ws, q2, _⟩ := src_at hT S₁ p2 (c2 _ j2)
    refine call_zipT hT q1 q2 fun h' z1 z2 z3 z4 z5 sz kp => wpAny_pyIter_zip z1 ?_
    have imm : ∀ a o, Imm a o → s₁.heap.get? a = some o → @Imm ⟨(s₁.heap.objs.size + 3) :: ζ.bad⟩ a o := fun a o i e => by
      cases i with
      | tup ws ep z =>
        refine @Imm.tup ⟨(s₁.heap.objs.size + 3) :: ζ.bad⟩ a ws ep fun q => ?_
        rcases List.mem_cons.mp q with q | q
        · exact absurd (Heap.lt_size e) (by rw [q]; exact Nat.not_lt.mpr (Nat.le_add_right _ 3))
        · exact z q
      | rng => exact @Imm.rng ⟨(s₁.heap.objs.size + 3) :: ζ.bad⟩ a ..
      | view c d z => exact @Imm.view ⟨(s₁.heap.objs.size + 3) :: ζ.bad⟩ a c d z
    have ok : ∀ b, s₁.heap.objs.size ≤ b → b ≠ s₁.heap.objs.size + 3 → @okA ⟨(s₁.heap.objs.size + 3) :: ζ.bad⟩ b := fun b n q w => by
      rcases List.mem_cons.mp w with w | w
      · exact q w
      · exact S₁.okn n w
    have D : Zp (s₁.heap.objs.size + 4) (s₁.heap.objs.size + 2) (s₁.heap.objs.size + 3) s₁.heap.objs.size (s₁.heap.objs.size + 1) := zpD _
    refine ⟨(⟨(s₁.heap.objs.size + 3) :: ζ.bad⟩ : Dead), s₁, m₁, H₁, s₁.heap.objs.size + 4, zws (s₁.heap.objs.size + 4) (s₁.heap.objs.size + 3) s₁.heap.objs.size (s₁.heap.objs.size + 1), fun k h => ∃ a b, @ZipP ⟨(s₁.heap.objs.size + 3) :: ζ.bad⟩ T (s₁.heap.objs.size + 4) (s₁.heap.objs.size + 2) (s₁.heap.objs.size + 3) s₁.heap.objs.size (s₁.heap.objs.size + 1) l1 l2 xs ys k h a b, xs.length, fun i => .tup [xs.getD i .none, ys.getD i .none], fun H => SrcC T H l1 xs ∧ SrcC T H l2 ys, J, tupT, fun a ha => List.mem_cons_of_mem _ ha, rfl, ?_⟩
    refine ⟨S₁, k₁, kp, ?_, fun b hb => ?_, by show _ ≤ h'.objs.size; rw [sz]; exact Nat.le_add_right _ 5, fun F' hh' => @iter_zip ⟨(s₁.heap.objs.size + 3) :: ζ.bad⟩ g F' T _ _ _ _ _ l1 l2 xs ys hT D (zws_new lt1) (zws_new lt2) (ok _ (Nat.le_add_right _ 4) (ne_add _ (a := 4) (b := 3) (by decide))) (ok _ (Nat.le_refl _) (ne_add _ (a := 0) (b := 3) (by decide))) (ok _ (Nat.le_add_right _ 1) (ne_add _ (a := 1) (b := 3) (by decide))) (ok _ (Nat.le_add_right _ 2) (ne_add _ (a := 2) (b := 3) (by decide))) (List.mem_cons_self) hlen hh', ht, ⟨.none, .none, @ZipP.mk ⟨(s₁.heap.objs.size + 3) :: ζ.bad⟩ _ _ _ _ _ _ _ _ _ _ _ _ _ _ z1 z2 z3 z4 z5 (fun t => ?_) (fun t => ?_)⟩, fun i zs m H jj => ⟨c1 _ (hJ i zs m H jj).1, c2 _ (hJ i zs m H jj).2⟩, j, fun Fc acc hF i zs m H hi jj => turn _ Fc acc hF i zs m H hi jj, fin⟩
    · exact St.shift (t := s₁.toks) S₁ kp imm fun a ha => by
        rcases List.mem_cons.mp ha with rfl | ha
        · exact ⟨_, z3⟩
        · obtain ⟨o, e⟩ := S₁.dead a ha; exact ⟨o, kp a o e⟩
    · show _ ∧ b < h'.objs.size
      rw [sz]; exact zws_in hb
    · exact VR.shift (fun a o _ e => kp a o e) imm _ _ (p1 t)
    · exact VR.shift (fun a o _ e => kp a o e) imm _ _ (p2 t)
  · obtain ⟨S₁, K₁⟩ := off h' s'.toks m' H' s' S' K' nC.un ⟨mc, hn⟩ ⟨mc', hn'⟩ hsb
    have oA' : OH g h' acc (.list ys) := by
      obtain ⟨vs, ep, e, r⟩ := oA
      obtain ⟨oC, es, epC, eC, dC, _⟩ := hn
      exact ⟨vs, ep, (hsb.2 acc (Ne.symm ne)).trans e, r.mono fun b o i eb => (hsb.2 b fun z => by subst z; rw [eC] at eb; cases eb; exact i.data.1 _ _ dC).trans eb⟩
    obtain ⟨S₂, K₂⟩ := S₁.trackN K₁ nA oA'
    exact ⟨.ref acc, m', _, .ref' acc, S₂, K₂, q acc nA.un⟩
end
end Mine
end
section
open PySem PySem.W PySem.Calls PyProof.Rows PySem.SeqAt
set_option linter.unusedSectionVars false
set_option linter.unusedVariables false
set_option maxRecDepth 100000
namespace Mine
noncomputable def Ext (H H' : AH) : Prop := ∀ a o, H a = some o → H' a = some o
theorem Ext.refl (H : AH) : Ext H H := fun _ _ e => e
theorem Ext.trans {a b c : AH} (x : Ext a b) (y : Ext b c) : Ext a c := fun _ _ e => y _ _ (x _ _ e)
theorem Ext.put [ζ : Dead] {H H' : AH} (x : Ext H H') {a : Addr} {o : O} (n : H' a = none) : Ext H (put H' a o) := fun b o' e => by
  rw [put_ne _ _ fun q => by subst q; rw [x _ _ e] at n; cases n]; exact x b o' e
theorem Ext.sat [ζ : Dead] {H H' : AH} {L : List (Addr × O)} (x : Ext H H') (s : Sat H L) : Sat H' L := ⟨s.1, fun p hp => x _ _ (s.2 p hp)⟩
noncomputable def leafT : V → Option String
  | .none => some "NoneType"
  | .bool _ => some "bool"
  | .int _ => some "int"
  | .pint _ => some "int"
  | .str _ => some "str"
  | .pstr _ => some "str"
  | _ => none
noncomputable def Leaf (x y : V) : Prop := ∃ T, leafT x = some T ∧ leafT y = some T ∧ veq x y = true
noncomputable def SameD (H : AH) : Nat → V → V → Prop
  | 0, x, y => Leaf x y
  | d + 1, x, y => Leaf x y ∨ ∃ T xs ys, SrcV T H x xs ∧ SrcV T H y ys ∧ xs.length = ys.length ∧ xs.length ≤ 1000 ∧ ∀ i, i < xs.length → SameD H d (xs.getD i .none) (ys.getD i .none)
theorem SrcV.ext {T : String} {H H' : AH} {a : V} {xs : List V} (e : Ext H H') (x : SrcV T H a xs) : SrcV T H' a xs := by
  rcases x with ⟨t, l, q, z⟩ | x
  · exact .inl ⟨t, l, q, e _ _ z⟩
  · exact .inr x
theorem SameD.ext {H H' : AH} (e : Ext H H') : ∀ {d : Nat} {x y : V}, SameD H d x y → SameD H' d x y
  | 0, _, _, h => h
  | d + 1, _, _, h => by
    rcases h with h | ⟨T, xs, ys, a, b, c, z, h⟩
    · exact .inl h
    · exact .inr ⟨T, xs, ys, a.ext e, b.ext e, c, z, fun i hi => SameD.ext e (h i hi)⟩
theorem leaf_ty {H : AH} {x : V} {T : String} (h : leafT x = some T) : TyV H x T ∧ dat x = true ∧ dep x ≤ 1000 ∧ (Value.type T == Value.type "builtin_function_or_method") = false ∧ (Value.type T == Value.type "list") = false ∧ (Value.type T == Value.type "tuple") = false := by
  cases x <;> first | (cases h; done) | (cases h; exact ⟨rfl, (by unfold dat; rfl), (by unfold dep; exact o92), by decide, by decide, by decide⟩)
theorem src_ty {H : AH} {x : V} {T : String} {xs : List V} (h : SrcV T H x xs) : TyV H x T ∧ (Value.type T == Value.type "builtin_function_or_method") = false ∧ ((Value.type T == Value.type "list") = true ∨ (Value.type T == Value.type "list") = false ∧ (Value.type T == Value.type "tuple") = true) := by
  rcases h with ⟨rfl, l, rfl, e⟩ | ⟨rfl, rfl⟩
  · exact ⟨.inl ⟨xs, e, rfl⟩, by decide, .inl (by decide)⟩
  · exact ⟨rfl, by decide, .inr ⟨by decide, by decide⟩⟩
section
variable [ζ : Dead]
variable {g : G} {F : Fm} {m : Loc} {H : AH} {s : Shared} {X : Value → List V → Loc → AH → Prop} {Q : V → Loc → AH → Prop}
noncomputable def SameOk (g : G) (d : Nat) : Prop := ∀ (F : Fm) (m : Loc) (H : AH) (x y : V) (Q : V → Loc → AH → Prop) (X : Value → List V → Loc → AH → Prop), F.lvl + d < 95 → F.A.handled = none → SameD H d x y → (∀ H', Ext H H' → Q (.bool true) m H') → WCode g F (.ref 153) [x, y] m H Q X
theorem c_lenS {T : String} {a : V} {xs : List V} (h : SrcV T H a xs) (hz : xs.length ≤ 1000) (hq : Q (.int xs.length) m H) : WC g F (.builtin "len") [a] m H Q X := by
  rcases h with ⟨rfl, l, rfl, e⟩ | ⟨rfl, rfl⟩
  · exact c_len (.own e) (len_60 hz) hq
  · exact c_lenT (len_60 hz) hq
theorem same_turn (D : Gd g) {Fc : Fm} {d : Nat} {scope : Scope} {acc : Addr} {x y : V} {elt : Expr} {pa pb pt p1 p2 p3 pn pc : Pos} {k : Nat} {J : List V → Loc → AH → Prop} (ih : SameOk g d) (hF : CompOf Fc F scope) (hh : F.A.handled = none) (hl : Fc.lvl + d < 95) (hd : SameD H d x y)
    (ha : ownN scope "a" = true) (hb : ownN scope "b" = true) (hg : scope.names.lookup ("_law_same" : Str) = some .globalImplicit)
    (hJ : ∀ m' H', Ext H H' → J [] m' H') :
    WA g Fc (.Tuple [.Name "a" pa, .Name "b" pb] k pt) (.tup [x, y]) m H (fun m H => WB g Fc (testsOf [.UnaryOp .Not (.Call (.Name "_law_same" p1) [.Name "a" p2, .Name "b" p3] [] pc) pn] Fc.env) m H (fun ok m H => if ok then WAcc g Fc acc (emitTail elt Fc acc) [] m H J X else J [] m H) X) X := by
  refine a_tuple (hF.hh hh) rfl (a_name (hF.loc ha) (a_name (hF.loc hb) ?_))
  refine tests_one (t_not (t_val (e_call (e_glob (hF.glo hg) (D.nb rfl) (fun _ => .cst' _) (fn_ok <| cw_plain (D.kp rfl) (l_cons (e_name rfl (l_cons (e_name rfl (l_nil (WCode.call (ih Fc _ _ x y _ _ hl (hF.hh hh) hd fun H' e => tr_bool ?_))))))))))))
  exact hJ _ _ e
end
end Mine
end
section
open PySem PySem.W PySem.Calls PyProof.Rows PySem.SeqAt
set_option linter.unusedSectionVars false
set_option linter.unusedVariables false
set_option maxRecDepth 100000
namespace Mine
theorem same_leaf [ζ : Dead] {g : G} (D : Gd g) {F : Fm} {m : Loc} {H : AH} {X : Value → List V → Loc → AH → Prop} {Q : V → Loc → AH → Prop} {x y : V} (hl : F.lvl < 100) (hh : F.A.handled = none) (h : Leaf x y) (hq : ∀ H', Ext H H' → Q (.bool true) m H') : WCode g F (.ref 153) [x, y] m H Q X := by
  obtain ⟨T, t1, t2, e⟩ := h
  obtain ⟨x1, x2, x3, x4, x5, x6⟩ := leaf_ty (H := H) t1
  obtain ⟨y1, y2, y3, _⟩ := leaf_ty (H := H) t2
  refine d_code (D.lk rfl) (D.cd rfl) rfl rfl rfl rfl rfl rfl rfl (lv100 hl rfl) (binds_peek (fun vs => [("one", vs.getD 0 .none), ("other", vs.getD 1 .none)]) (fun vs S hv => ?_) (fun h vs r => ?_)) (bs := [("one", x), ("other", y)]) rfl fun F' hF => ?_
  · obtain ⟨v, u, rfl⟩ := len2 hv; rw [D.K]; rfl
  · obtain ⟨v, r', rfl, rv, rr⟩ := r.uncons; obtain ⟨u, r', rfl, ru, rr⟩ := rr.uncons; exact ⟨v, _, rfl, rv, u, [], rfl, ru, rfl⟩
  have tself : (Value.type T == Value.type T) = true := beq_self_eq_true _
  refine s_cons <| s_if <| t_cmp rfl <| e_call <| e_blt (hF.glo rfl) (D.nb rfl) D.ty (fn_ok <| cw_plain (.type _) <| l_cons <| e_name rfl <| l_nil <| c_type x1 x4 <| e_call <| e_blt (hF.glo rfl) (D.nb rfl) D.ty (fn_ok <| cw_plain (.type _) <| l_cons <| e_name rfl <| l_nil <| c_type y1 x4 <| o_isnT tself <| tr_bool <| s_nil ?_))
  refine s_cons <| s_if <| t_bool <| t_or <| t_cmp rfl <| e_call <| e_blt (hF.glo rfl) (D.nb rfl) D.ty (fn_ok <| cw_plain (.type _) <| l_cons <| e_name rfl <| l_nil <| c_type x1 x4 <| e_blt (hF.glo rfl) (D.nb rfl) D.list <| o_isT x5 <| tr_bool ?_)
  refine t_or <| t_cmp rfl <| e_call <| e_blt (hF.glo rfl) (D.nb rfl) D.ty (fn_ok <| cw_plain (.type _) <| l_cons <| e_name rfl <| l_nil <| c_type x1 x4 <| e_blt (hF.glo rfl) (D.nb rfl) D.tuple <| o_isT x6 <| tr_bool <| t_or_nil <| s_nil ?_)
  refine s_cons (s_ret (e_cmp rfl (e_name rfl (e_name rfl (o_eq x2 y2 x3 ?_)))))
  rw [e]
  exact hq H (.refl _)
theorem law_same {g : G} (D : Gd g) : ∀ (d : Nat) (ζ : Dead), @SameOk ζ g d
  | 0, ζ, F, m, H, x, y, Q, X, hl, hh, h, hq => same_leaf D (by exact o172 hl) hh h hq
  | d + 1, ζ, F, m, H, x, y, Q, X, hl, hh, h, hq => by
    rcases h with h | ⟨T, xs, ys, a, b, hlen, hz, h⟩
    · exact same_leaf D (by exact o173 hl) hh h hq
    obtain ⟨x1, x4, x5⟩ := src_ty a
    obtain ⟨y1, _, _⟩ := src_ty b
    have hz' : ys.length ≤ 1000 := by rw [← hlen]; exact hz
    have tself : (Value.type T == Value.type T) = true := beq_self_eq_true _
    refine d_code (D.lk rfl) (D.cd rfl) rfl rfl rfl rfl rfl rfl rfl (show F.lvl < 100 by exact o173 hl) (binds_peek (fun vs => [("one", vs.getD 0 .none), ("other", vs.getD 1 .none)]) (fun vs S hv => ?_) (fun h vs r => ?_)) (bs := [("one", x), ("other", y)]) rfl fun F' hF => ?_
    · obtain ⟨v, u, rfl⟩ := len2 hv; rw [D.K]; rfl
    · obtain ⟨v, r', rfl, rv, rr⟩ := r.uncons; obtain ⟨u, r', rfl, ru, rr⟩ := rr.uncons; exact ⟨v, _, rfl, rv, u, [], rfl, ru, rfl⟩
    refine s_cons <| s_if <| t_cmp rfl <| e_call <| e_blt (hF.glo rfl) (D.nb rfl) D.ty (fn_ok <| cw_plain (.type _) <| l_cons <| e_name rfl <| l_nil <| c_type x1 x4 <| e_call <| e_blt (hF.glo rfl) (D.nb rfl) D.ty (fn_ok <| cw_plain (.type _) <| l_cons <| e_name rfl <| l_nil <| c_type y1 x4 <| o_isnT tself <| tr_bool <| s_nil ?_))
    refine s_cons (s_if (Wt.mono (Q := fun c m' H' => c = true ∧ m' = bindAbs [("one", x), ("other", y)] (fun _ => none) ∧ H' = H) ?_ (fun c m' H2 qq1 => qq1.elim fun q1 qq2 => qq2.elim fun q2 q3 => ?_) (fun _ _ _ _ z => z)))
    · rcases x5 with x5 | ⟨x5, x6⟩
      · exact t_bool <| t_or <| t_cmp rfl <| e_call <| e_blt (hF.glo rfl) (D.nb rfl) D.ty (fn_ok <| cw_plain (.type _) <| l_cons <| e_name rfl <| l_nil <| c_type x1 x4 <| e_blt (hF.glo rfl) (D.nb rfl) D.list <| o_isT x5 <| tr_bool ⟨rfl, rfl, rfl⟩)
      · refine t_bool <| t_or <| t_cmp rfl <| e_call <| e_blt (hF.glo rfl) (D.nb rfl) D.ty (fn_ok <| cw_plain (.type _) <| l_cons <| e_name rfl <| l_nil <| c_type x1 x4 <| e_blt (hF.glo rfl) (D.nb rfl) D.list <| o_isT x5 <| tr_bool ?_)
        exact t_or <| t_cmp rfl <| e_call <| e_blt (hF.glo rfl) (D.nb rfl) D.ty (fn_ok <| cw_plain (.type _) <| l_cons <| e_name rfl <| l_nil <| c_type x1 x4 <| e_blt (hF.glo rfl) (D.nb rfl) D.tuple <| o_isT x6 <| tr_bool ⟨rfl, rfl, rfl⟩)
    · subst q1 q2 q3
      rw [if_pos rfl]
      refine s_cons <| s_ret <| e_and <| e_cmp rfl <| e_call <| e_blt (hF.glo rfl) (D.nb rfl) D.len (fn_ok <| cw_plain (.blt _) <| l_cons <| e_name rfl <| l_nil <| c_lenS a hz <| e_call <| e_blt (hF.glo rfl) (D.nb rfl) D.len (fn_ok <| cw_plain (.blt _) <| l_cons <| e_name rfl <| l_nil <| c_lenS b hz' <| o_eqi <| tr_bool ?_))
      rw [if_pos (by rw [hlen]; simp)]
      refine e_cmp rfl (e_compZip rfl (CompHead.of hF rfl rfl) (fun _ => rfl) (hF.hh hh) hF.st (fun Fc acc it => turn_one ..) (hF.glo rfl) (D.nb rfl) D.zip (l_cons (e_name rfl (l_cons (e_name rfl (l_nil ?_))))))
      refine ⟨T, x, y, xs, ys, fun i zs m' H' => zs = [] ∧ Ext H' H' ∧ Ext H2 H', rfl, hlen, fun i zs m' H' qq1 => qq1.elim fun _ qq2 => qq2.elim fun _ e => ⟨a.ext e, b.ext e⟩, ⟨rfl, .refl _, .refl _⟩, fun ζ₂ Fc acc hC i zs m' H' hi qq3 => qq3.elim fun e1 qq4 => qq4.elim fun _ e2 => ?_, fun zs m' H' qq5 c hc => qq5.elim fun e1 qq6 => qq6.elim fun _ e2 => ?_⟩
      · subst e1
        have lv : Fc.lvl + d < 95 := by rw [hC.lvl, hF.lvl]; exact o174 hl
        exact @same_turn ζ₂ g F' m' H' _ D Fc d _ acc _ _ _ _ _ _ _ _ _ _ _ _ _ (law_same D d ζ₂) hC (hF.hh hh) lv (SameD.ext e2 (h i hi)) rfl rfl rfl fun m2 H2 e3 => ⟨rfl, .refl _, e2.trans e3⟩
      · subst e1
        refine e_list (l_nil ⟨Nat.le_of_ble_eq_true rfl, fun c2 hc2 => ?_⟩)
        have p1 : put (put H' c (.list [])) c2 (.list []) c2 = some (.list []) := put_self ..
        have p0 : put (put H' c (.list [])) c2 (.list []) c = some (.list []) := by
          rw [put_ne _ _ fun q => by subst q; rw [put_self] at hc2; cases hc2]; exact put_self ..
        refine o_eqL (.own p0) (.own p1) (by unfold dats; rfl) (by unfold dats; rfl) (by unfold deps; exact o92) ?_
        rw [veqs_nil]
        exact hq _ ((e2.put hc).put hc2)
end Mine
end
section
open PySem PySem.W PySem.Calls PyProof.Rows PySem.SeqAt
set_option linter.unusedSectionVars false
set_option linter.unusedVariables false
set_option maxRecDepth 100000
namespace Mine
variable [ζ : Dead]
theorem Ext.put' {H H' : AH} (x : Ext H H') {a : Addr} {o : O} (n : H a = none) : Ext H (Mine.put H' a o) := fun b o' e => by
  rw [put_ne _ _ fun q => by subst q; rw [n] at e; cases e]; exact x b o' e
theorem Ext.no {H H' : AH} (x : Ext H H') {a : Addr} (n : H' a = none) : H a = none := by
  cases q : H a with
  | none => rfl
  | some o => rw [x a o q] at n; cases n
noncomputable def refs (as : List Addr) : List V := as.map .ref
theorem refs_len (as : List Addr) : (refs as).length = as.length := by unfold refs; simp
theorem refs_get {as : List Addr} {i : Nat} (h : i < as.length) : (refs as).getD i .none = .ref as[i] := by
  unfold refs; rw [List.getD_eq_getElem?_getD, List.getElem?_map, List.getElem?_eq_getElem h]; rfl
noncomputable def keptRow (r : Row) : List V := [cd r.k, cd r.k, .int r.np, .ref r.la]
noncomputable def headRow (σ : Srt) : List V := [rdV σ.rd, .int σ.po, .int σ.nf]
noncomputable def tabLay (l : Addr) (as : List Addr) (rows : List (List V)) : List (Addr × O) := (l, .list (refs as)) :: as.zipWith (fun a r => (a, .list r)) rows
theorem tab_snoc {l a : Addr} {as : List Addr} {rows : List (List V)} {r : List V} (h : as.length = rows.length) : tabLay l (as ++ [a]) (rows ++ [r]) = (l, .list (refs (as ++ [a]))) :: (as.zipWith (fun a r => (a, .list r)) rows ++ [(a, .list r)]) := by
  unfold tabLay
  rw [List.zipWith_append h]; rfl
theorem tab_add {H : AH} {l a : Addr} {as : List Addr} {rows : List (List V)} {r : List V} (h : as.length = rows.length) (s : Sat H (tabLay l as rows)) (n : H a = none) : Sat (put (put H a (.list r)) l (.list (refs as ++ [.ref a]))) (tabLay l (as ++ [a]) (rows ++ [r])) := by
  have s1 := s.new (o := .list r) n
  have s2 : Sat (put H a (.list r)) ((l, .list (refs as)) :: (a, .list r) :: as.zipWith (fun a r => (a, O.list r)) rows) := s1.perm (List.Perm.swap ..)
  have s3 := s2.set (.list (refs as ++ [.ref a]))
  rw [tab_snoc h]
  have e : refs (as ++ [a]) = refs as ++ [.ref a] := by unfold refs; simp
  rw [e]
  exact s3.perm (List.Perm.cons _ (by
    have := (List.perm_append_comm (l₁ := [(a, O.list r)]) (l₂ := as.zipWith (fun a r => (a, O.list r)) rows))
    exact this))
section
variable {g : G} {F : Fm} {m : Loc} {H : AH} {X : Value → List V → Loc → AH → Prop} {Q : V → Loc → AH → Prop} {σ : Srt} {B : List (Addr × O)}
theorem law_kept_spec (D : Gd g) (hl : F.lvl < 90) (hh : F.A.handled = none) (s : Sat H (σ.lay ++ B)) (hz : σ.rows.length ≤ 900) (h : ∀ l as H', as.length = σ.rows.length + 1 → Ext H H' → Sat H' (tabLay l as (headRow σ :: σ.rows.map keptRow)) → Q (.ref l) m H') : WCode g F (.ref 160) [.ref σ.x] m H Q X := by
  have A := at_ns g.w.params
  have A2 := at_slot g.w.params
  rw [← D.K] at A A2
  refine d_code (D.lk rfl) (D.cd rfl) rfl rfl rfl rfl rfl rfl rfl (lv100 hl rfl) (binds_peek (fun vs => [("sorter", vs.getD 0 .none)]) (fun vs S hv => ?_) (fun h vs r => ?_)) (bs := [("sorter", .ref σ.x)]) rfl fun F' hF => ?_
  · obtain ⟨v, rfl⟩ := len1 hv; rw [D.K]; rfl
  · obtain ⟨v, r', rfl, rv, rr⟩ := r.uncons; exact ⟨v, [], rfl, rv, rfl⟩
  have hrd : handed (rdV σ.rd) = true := by cases σ.rd <;> rfl
  refine s_cons <| s_assign (hF.loc rfl) rfl <| e_list <| l_cons <| e_list <| l_cons <| e_attr <| e_name rfl <| x_get A.2.1 (Srt.inst s) (Srt.ns s) (x := rdV σ.rd) rfl hrd <| l_cons <| e_attr <| e_name rfl <| x_get A.2.2.1 (Srt.inst s) (Srt.ns s) (x := .int σ.po) rfl rfl <| l_cons <| e_attr <| e_name rfl <| x_get A.2.2.2 (Srt.inst s) (Srt.ns s) (x := .int σ.nf) rfl rfl <| l_nil ⟨Nat.le_of_ble_eq_true rfl, fun r0 hr0 => l_nil ⟨Nat.le_of_ble_eq_true rfl, fun l hl0 => ?_⟩⟩
  have e1 : Ext H (put (put H r0 (.list (headRow σ))) l (.list [.ref r0])) := ((Ext.refl H).put hr0).put hl0
  have s1 : Sat (put (put H r0 (.list (headRow σ))) l (.list [.ref r0])) (tabLay l [r0] [headRow σ]) := ((Sat.nil _).new hr0).new hl0
  have nl : H l = none := ((Ext.refl H).put hr0).no hl0
  refine s_cons <| s_for (fun _ => rfl) <| e_meth <| e_attr <| e_name rfl <| x_get A.1 (e1 _ _ (Srt.inst s)) (e1 _ _ (Srt.ns s)) (x := .ref σ.d) rfl rfl (me_ok (meth_dict (e1 _ _ (Srt.dict s)) PySem.F.slot_dict_items PySem.F.type_dict_items) <| cw_plain (.blt _) <| l_nil <| c_items (e1 _ _ (Srt.dict s)) <|
    for_anyT (it_items (d := σ.d) (es := dictOfRows σ.rows) (ep := σ.ep)) rfl (fun i m' H' => ∃ as, as.length = i + 1 ∧ Ext H H' ∧ Sat H' (tabLay l as (headRow σ :: (σ.rows.take i).map keptRow)) ∧ m' "rows" = some (.ref l)) (hF.hh hh) hF.st (fun i m' H' qq1 => qq1.elim fun as qq2 => qq2.elim fun _ qq3 => qq3.elim fun e _ => e _ _ (Srt.dict s)) ⟨[r0], rfl, e1, s1, rfl⟩ (fun i m' H' hi qq4 => qq4.elim fun as qq5 => qq5.elim fun ha qq6 => qq6.elim fun e qq7 => qq7.elim fun st m1 => ?_) (fun m' H' qq8 => qq8.elim fun as qq9 => qq9.elim fun ha qq10 => qq10.elim fun e qq11 => qq11.elim fun st m1 => ?_))
  · have hi' : i < σ.rows.length := by unfold dictOfRows at hi; simpa using hi
    have ev : (dictOfRows σ.rows).getD i (0, .none) = (σ.rows[i].k, .ref σ.rows[i].na) := by unfold dictOfRows; rw [List.getD_eq_getElem?_getD, List.getElem?_map, List.getElem?_eq_getElem hi']; rfl
    rw [ev]
    have hr := List.getElem_mem hi'
    have nd := e _ _ (Srt.node s hr)
    have hlen : as.length = (headRow σ :: (σ.rows.take i).map keptRow).length := by rw [ha]; simp; exact o175 hi'
    refine a_tuple (hF.hh hh) rfl <| a_name (hF.loc rfl) <| a_name (hF.loc rfl) ?_
    refine s_cons <| s_expr <| e_meth <| e_name (by exact m1) (me_ok (meth_list (.own (st.get (.head _))) PySem.F.slot_list_append PySem.F.type_list_append) <| cw_plain (.blt _) <| l_cons <| e_list <| l_cons <| e_name rfl <| l_cons <| e_attr <| e_name rfl <| x_slot A2.1 nd rfl (cd_handed _) <| l_cons <| e_attr <| e_name rfl <| x_slot A2.2.1 nd rfl rfl <| l_cons <| e_attr <| e_name rfl <| x_slot A2.2.2 nd rfl rfl <| l_nil ⟨Nat.le_of_ble_eq_true rfl, fun a ha0 => l_nil ?_⟩)
    have s2 := tab_add (r := keptRow σ.rows[i]) hlen st ha0
    have la : put H' a (.list (keptRow σ.rows[i])) l = some (.list (refs as)) := by
      rw [put_ne _ _ fun q => by subst q; rw [st.get (.head _)] at ha0; cases ha0]; exact st.get (.head _)
    refine c_append la (by rw [refs_len, ha]; exact o176 hz hi') (s_nil ⟨as ++ [a], by simp [ha], (e.put ha0).put' nl, ?_, by exact m1⟩)
    have et : (σ.rows.take (i + 1)).map keptRow = (σ.rows.take i).map keptRow ++ [keptRow σ.rows[i]] := by rw [List.take_add_one, List.getElem?_eq_getElem hi', List.map_append]; rfl
    rw [et]
    exact s2
  · have el : (dictOfRows σ.rows).length = σ.rows.length := by unfold dictOfRows; simp
    rw [el] at ha st
    rw [List.take_of_length_le (Nat.le_refl _)] at st
    exact s_nil <| s_cons <| s_ret <| e_name (by exact m1) <| h l as H' ha e st
end
end Mine
end
section
open PySem PySem.W PySem.Calls PyProof.Rows PySem.SeqAt
set_option linter.unusedSectionVars false
set_option linter.unusedVariables false
set_option maxRecDepth 100000
namespace Mine
variable [ζ : Dead]
structure CallsAt (H : AH) (lc : Addr) (as : List Addr) (cs : List (List Int)) : Prop where
  top : H lc = some (.list (refs as))
  len : as.length = cs.length
  each : ∀ i (h : i < as.length) (h' : i < cs.length), H as[i] = some (.list (nms cs[i]))
  ne : ∀ c ∈ cs, c ≠ []
  sz : ∀ c ∈ cs, c.length ≤ 10
  few : cs.length ≤ 200
theorem CallsAt.ext {H H' : AH} {lc : Addr} {as : List Addr} {cs : List (List Int)} (e : Ext H H') (x : CallsAt H lc as cs) : CallsAt H' lc as cs := ⟨e _ _ x.top, x.len, fun i h h' => e _ _ (x.each i h h'), x.ne, x.sz, x.few⟩
theorem nms_len (is : List Int) : (nms is).length = is.length := by unfold nms; simp
theorem nms_get {is : List Int} {i : Nat} (h : i < is.length) : (nms is).getD i .none = nm is[i] := by
  unfold nms; rw [List.getD_eq_getElem?_getD, List.getElem?_map, List.getElem?_eq_getElem h]; rfl
theorem nms_app (a b : List Int) : nms (a ++ b) = nms a ++ nms b := by unfold nms; simp
theorem flat_len {cs : List (List Int)} (h : ∀ c ∈ cs, c.length ≤ 10) : cs.flatten.length ≤ 10 * cs.length := by
  induction cs with
  | nil => exact Nat.zero_le _
  | cons c cs ih =>
    rw [List.flatten_cons, List.length_append, List.length_cons]
    have := h c List.mem_cons_self
    have := ih fun c hc => h c (List.mem_cons_of_mem _ hc)
    exact o423 this (by assumption)
section
variable {g : G} {F : Fm} {m : Loc} {H : AH} {s : Shared} {X : Value → List V → Loc → AH → Prop} {Q : V → Loc → AH → Prop}
theorem c_index {l : Addr} {ns : List Int} {k : Int} (hl : H l = some (.list (nums ns))) (hz : ns.length ≤ 5000) (hk : k ∈ ns) (h : Q (.int (ns.idxOf k : Nat)) m H) : WC g F (.builtin "list.index") [.ref l, .int k] m H Q X := wc2 fun s v u S r ru => by
  rw [VR.ref_iff] at r; subst r
  rw [VR.int_iff] at ru; obtain ⟨t, rfl⟩ := ru
  obtain ⟨vs, ep, e, rs⟩ := S.listAt hl
  obtain ⟨ys, rfl, rfl⟩ := nums_items (nums_are rs)
  have lt := List.idxOf_lt_length_of_mem hk
  have lt' : (ys.map (·.1)).idxOf k < ys.length := by simpa using lt
  refine call_meets PySem.F.slot_list_index ⟨_, e, rfl⟩ PySem.F.entry_list_index (PySem.F.args_list_index_2 _ _) (MeetsSeq.list_index l _ ep (.int k t) (fun v => match v with | .int a _ => a == k | _ => false) (fun y hy => ?_) ((ys.map (·.1)).idxOf k) (by simpa using lt') (by simp at hz; exact o344 hz lt') ?_ fun i hi hlt => ?_)
    ⟨e, OkP.now S rfl rfl rfl (.int' _ _) h⟩
  · simp only [List.mem_toArray, List.mem_map] at hy
    obtain ⟨p, _, rfl⟩ := hy
    exact MeetsSeq.EqGives.int _ _ _ _
  · have := List.getElem_idxOf lt
    simp only [List.getElem_map] at this
    simp only [List.getElem_toArray, List.getElem_map]
    rw [this]; exact beq_self_eq_true _
  · simp only [List.getElem_toArray, List.getElem_map]
    have h1 : i < (ys.map (·.1)).length := by simpa using hi
    have hlt' : i < List.findIdx (fun x => x == k) (ys.map fun p => p.1) := hlt
    have z := List.not_of_lt_findIdx hlt'
    simp at z ⊢
    exact z
end
section
variable {g : G} {F : Fm} {m : Loc} {H : AH} {X : Value → List V → Loc → AH → Prop} {Q : List V → AH → Prop}
theorem w0_told {scope : Scope} {x y : Str} {px px2 py py2 ppos : Pos} {i0 : Expr} {lc : Addr} {as : List Addr} {cs : List (List Int)} (hh : F.A.handled = none) (hs : F.stack ≠ []) (hc : CallsAt H lc as cs)
    (hx : ownN scope x = true) (hy : ownN scope y = true) (hdx : (x == ("__debug__" : Str)) = false) (hdy : (y == ("__debug__" : Str)) = false)
    (hq : Q (nms cs.flatten) H) : Walk0 g F scope (.Name x px) [] (nestTail (.Name y py2) (.Name x px) i0 [] (.Name y py) (.Name x px2) [] scope ppos) (.ref lc) m H Q X := by
  refine ⟨anyT, (refs as).length, _, fun H' => H' lc = some (.list (refs as)), fun i ys m' H' => H' = H ∧ ys = nms (cs.take i).flatten, it_list, rfl, fun i ys m' H' qq1 => qq1.elim fun e _ => by rw [e]; exact hc.top, ⟨rfl, rfl⟩, fun Fc acc hC i ys m' H' hi qq2 => qq2.elim fun e1 e2 => ?_, fun ys m' H' qq3 => qq3.elim fun e1 e2 => ?_⟩
  · subst e1 e2
    rw [refs_len] at hi
    have hi' : i < cs.length := by rw [← hc.len]; exact hi
    rw [refs_get hi]
    have lt : (cs.take i).flatten.length ≤ 2000 := by
      have := flat_len (cs := cs.take i) fun c hm => hc.sz c (List.mem_of_mem_take hm)
      have h2 := List.length_take_le i cs
      have := hc.few
      have h3 : (cs.take i).length ≤ cs.length := List.length_take_le' _ _
      exact o424 h2 this (by assumption) hi'
    refine a_name (hC.loc hx) (tests_nil ?_)
    rw [if_pos rfl]
    refine acc_nest (hC.hh hh) (hC.st hs) (fun _ => rfl) fun tail ht => ?_
    subst ht
    refine e_name (setL_self ..) ?_ hdx
    have ea := hc.each i hi hi'
    have sz := hc.sz _ (List.getElem_mem hi')
    refine ⟨anyT, (nms cs[i]).length, _, fun H' => H' as[i] = some (.list (nms cs[i])), fun j zs m2 H2 => H2 = H' ∧ zs = nms ((cs.take i).flatten ++ cs[i].take j), it_list, rfl, fun j zs m2 H2 qq1 => qq1.elim fun e _ => by rw [e]; exact ea, ⟨rfl, by simp⟩, fun j zs m2 H2 hj qq2 => qq2.elim fun e1 e2 => ?_, fun zs m2 H2 qq3 => qq3.elim fun e1 e2 => ?_⟩
    · subst e1 e2
      rw [nms_len] at hj
      rw [nms_get hj]
      refine a_name (hC.loc hy) (tests_nil ?_)
      rw [if_pos rfl]
      refine acc_emit (by rw [nms_len, sizeLine_eq, List.length_append]; have := List.length_take_le' j cs[i]; exact o179 sz lt this) (e_name (setL_self ..) ⟨rfl, ?_⟩ hdy)
      rw [List.take_add_one, List.getElem?_eq_getElem hj, ← List.append_assoc, nms_app _ (some cs[i][j]).toList]
      rfl
    · subst e1 e2
      rw [nms_len, List.take_of_length_le (Nat.le_refl _)]
      refine ⟨rfl, ?_⟩
      rw [List.take_add_one, List.getElem?_eq_getElem hi', List.flatten_append]
      simp
  · subst e1 e2
    rw [refs_len, hc.len, List.take_of_length_le (Nat.le_refl _)]
    exact hq
theorem w0_kinds {scope : Scope} {x y : Str} {px py px2 pt : Pos} {k : Nat} {lt : Addr} {told : List Int} (hh : F.A.handled = none) (ht : H lt = some (.list (nms told))) (hz : told.length ≤ 5000)
    (hx : ownN scope x = true) (hy : ownN scope y = true) (hxy : x ≠ y) (hdx : (x == ("__debug__" : Str)) = false) (hq : Q (nums (told.map cl)) H) : Walk0 g F scope (.Tuple [.Name x px, .Name y py] k pt) [] (emitTail (.Name x px2)) (.ref lt) m H Q X := by
  refine w0_gen (xs := told) nm (fun i => some (.int (cl i))) (fun H' => H' = H) (tg := anyT) (by have := it_list (g := g) (l := lt) (xs := nms told); rwa [nms_len] at this) rfl (fun i h => nms_get h) (fun _ e => by rw [e]; exact ht) rfl (fun Fc acc hC i hi ys hl m' H' sees e J hJ => ?_) fun H' e => ?_
  · subst e
    refine a_tuple (hC.hh hh) rfl (a_name (hC.loc hx) (a_name (hC.loc hy) (tests_nil ?_)))
    rw [if_pos rfl]
    exact acc_emit (by rw [sizeLine_eq]; exact o180 hz hl) (e_name (by rw [setL_ne _ _ hxy, setL_self]) (hJ _ _ rfl ((sees.set hx).set hy)) hdx)
  · subst e
    have : told.filterMap (fun i => some (V.int (cl i))) = nums (told.map cl) := by unfold nums; rw [List.filterMap_eq_map', List.map_map]; rfl
    rw [this]; exact hq
end
end Mine
end
section
open PySem PySem.W PySem.Calls PyProof.Rows PySem.SeqAt
set_option linter.unusedSectionVars false
set_option linter.unusedVariables false
set_option maxRecDepth 100000
namespace Mine
variable [ζ : Dead]
theorem dat_int (n : Int) : dat (.int n) = true := by unfold dat; rfl
theorem bounds_tail (n : Nat) : sliceBounds (some 1) none none (n + 1) = (1, (n : Int) + 1, 1) := by
  unfold sliceBounds
  simp
  exact o425
theorem cut_tail (xs : List V) : cut xs (some 1) none none = xs.tail := by
  cases xs with
  | nil => unfold cut sliceRange sliceBounds; simp
  | cons x xs =>
    unfold cut
    rw [List.length_cons, bounds_tail]
    unfold sliceRange
    simp only [List.tail_cons]
    have e : (if (1 : Int) > 0 then (if (1 : Int) < (xs.length : Int) + 1 then ((xs.length : Int) + 1 - 1 + 1 - 1) / 1 else 0) else (if (1 : Int) > (xs.length : Int) + 1 then (1 - ((xs.length : Int) + 1) - 1 - 1) / (-1) else 0)).toNat = xs.length := by
      rw [if_pos (by decide)]
      split <;> omega
    rw [e]
    rw [List.filterMap_map]
    have f : ((fun i => (x :: xs)[i]?) ∘ fun (k : Nat) => ((1 : Int) + 1 * (k : Int)).toNat) = fun k => xs[k]? := by
      funext k
      have : ((1 : Int) + 1 * (k : Int)).toNat = k + 1 := by exact o182
      show (x :: xs)[((1 : Int) + 1 * (k : Int)).toNat]? = _
      rw [this, List.getElem?_cons_succ]
    rw [f]
    have := filterMap_getElem?_range xs.toArray
    simpa using this
theorem range_get {n i : Nat} (h : i < (List.range n).length) : (List.range n)[i] = i := by simp
section
variable {g : G} {F : Fm} {m : Loc} {H : AH} {X : Value → List V → Loc → AH → Prop} {Q : List V → AH → Prop}
noncomputable def idxs (kinds : List Int) : List Int := (List.range 7).filterMap fun (k : Nat) => if kinds.contains (k : Int) then some (kinds.idxOf (k : Int) : Int) else none
theorem w0_idx {scope : Scope} {x y : Str} {px px2 px3 py py2 p1 p2 p3 : Pos} {lk : Addr} {kinds : List Int} (hh : F.A.handled = none) (hk : H lk = some (.list (nums kinds))) (hz : kinds.length ≤ 5000) (hm : m y = some (.ref lk))
    (hx : ownN scope x = true) (hy : scope.names.lookup y = some .free) (hdx : (x == ("__debug__" : Str)) = false) (hdy : (y == ("__debug__" : Str)) = false) (hl1 : (p3.endLine == p1.line) = true) 
    (hq : Q (nums (idxs kinds)) H) : Walk0 g F scope (.Name x px) [.Compare (.Name x px2) [.In] [.Name y py] p2] (emitTail (.Call (.Attribute (.Name y py2) "index" p3) [.Name x px3] [] p1)) (.rng 0 7 1) m H Q X := by
  refine w0_gen (xs := List.range 7) (fun k => .int (k : Int)) (fun k => (if kinds.contains (k : Int) then some (kinds.idxOf (k : Int) : Int) else none).map V.int) (fun H' => H' = H) (it_rangeN (n := 7) rfl (by decide)) rfl (fun i h => by rw [range_get h, Int.zero_add]) (fun _ _ => trivial) rfl (fun Fc acc hC k hk' ys hl m' H' sees e J hJ => ?_) fun H' e => ?_
  · subst e
    have sees2 : Sees scope m (setL m' x (.int (k : Int))) := sees.set hx
    have hm2 : (setL m' x (.int (k : Int))) y = some (.ref lk) := (sees2 _ hy).trans hm
    refine a_name (hC.loc hx) (tests_one <| t_cmp rfl <| e_name (setL_self ..) (hd := hdx) <| e_name hm2 (hd := hdy) <| o_in (.own hk) (dat_int _) (dats_ints _) (deps_le _) <| tr_bool ?_)
    rw [any_ints]
    have j := hJ _ _ rfl sees2
    by_cases z : kinds.contains (k : Int) = true
    · rw [if_pos z] at j ⊢
      have zm : (k : Int) ∈ kinds := by simpa using z
      refine acc_emit (by rw [sizeLine_eq]; simp at hl; exact o183 hl) (e_meth (e_name hm2 (hd := hdy) (me_ok (meth_list (.own hk) PySem.F.slot_list_index PySem.F.type_list_index) <| cw_plain (.blt _) (l_cons (e_name (setL_self ..) (hd := hdx) (l_nil (c_index hk hz zm j)))))) (hline := hl1))
    · rw [if_neg z] at j ⊢
      rw [show ((none : Option Int).map V.int).toList = [] from rfl, List.append_nil] at j
      exact j
  · subst e
    have : (List.range 7).filterMap (fun (k : Nat) => (if kinds.contains (k : Int) then some (kinds.idxOf (k : Int) : Int) else none).map V.int) = nums (idxs kinds) := by unfold nums idxs; rw [List.map_filterMap]
    rw [this]; exact hq
noncomputable def headOf (c : List Int) : Int := c.headD 0
noncomputable def cntOf (cs : List (List Int)) (t : Int) : List Int := cs.filterMap fun c => if cl (headOf c) = t then some ((c.length : Int) - 1) else none
noncomputable def nodesOf (cs : List (List Int)) (t : Int) : List Int := cs.flatMap fun c => (c.tail.filter fun o => decide (cl o = t)).map fun _ => headOf c
theorem zip_get {as : List Addr} {cs : List (List Int)} (h : as.length = cs.length) {i : Nat} (hi : i < (as.zip cs).length) : ∃ (h1 : i < as.length) (h2 : i < cs.length), (as.zip cs)[i] = (as[i], cs[i]) := by
  have h1 : i < as.length := by simp at hi; exact o40 hi
  exact ⟨h1, by exact o109 h h1, by simp⟩
theorem CallsAt.mem {lc : Addr} {as : List Addr} {cs : List (List Int)} (x : CallsAt H lc as cs) {p : Addr × List Int} (h : p ∈ as.zip cs) : H p.1 = some (.list (nms p.2)) ∧ p.2 ≠ [] ∧ p.2.length ≤ 10 := by
  obtain ⟨i, hi, rfl⟩ := List.mem_iff_getElem.mp h
  obtain ⟨h1, h2, e⟩ := zip_get x.len hi
  rw [e]
  exact ⟨x.each i h1 h2, x.ne _ (List.getElem_mem h2), x.sz _ (List.getElem_mem h2)⟩
theorem head_at {c : List Int} (h : c ≠ []) : (nms c)[(0 : Int).toNat]? = some (.tup [.int (cl (headOf c)), cd (headOf c)]) := by
  cases c with
  | nil => exact absurd rfl h
  | cons a c => rfl
theorem zip_filterMap {β : Type} (f : List Int → Option β) : ∀ {as : List Addr} {cs : List (List Int)}, as.length = cs.length → (as.zip cs).filterMap (fun p => f p.2) = cs.filterMap f
  | [], [], _ => rfl
  | a :: as, c :: cs, h => by
    rw [List.zip_cons_cons, List.filterMap_cons, List.filterMap_cons, zip_filterMap f (by simpa using h)]
theorem w0_cnt {scope : Scope} {x y : Str} {px px2 px3 py pl p1 p2 p3 p4 p5 p6 p7 p8 : Pos} {k1 k2 k3 : Nat} {lc : Addr} {as : List Addr} {cs : List (List Int)} {t : Int} (D : Gd g) (hh : F.A.handled = none) (hc : CallsAt H lc as cs) (hm : m y = some (.int t))
    (hx : ownN scope x = true) (hy : scope.names.lookup y = some .free) (hl : scope.names.lookup ("len" : Str) = some .globalImplicit) (hdx : (x == ("__debug__" : Str)) = false) (hdy : (y == ("__debug__" : Str)) = false)
    (hq : Q (nums (cntOf cs t)) H) : Walk0 g F scope (.Name x px) [.Compare (.Subscript (.Subscript (.Name x px2) (.Constant (.int 0) k1 p1) p2) (.Constant (.int 0) k2 p3) p4) [.Eq] [.Name y py] p5]
      (emitTail (.BinOp (.Call (.Name "len" pl) [.Name x px3] [] p6) .Sub (.Constant (.int 1) k3 p7) p8)) (.ref lc) m H Q X := by
  refine w0_gen (xs := as.zip cs) (fun p => .ref p.1) (fun p => (if cl (headOf p.2) = t then some ((p.2.length : Int) - 1) else none).map V.int) (fun H' => H' = H) (tg := anyT) (C := fun H' => H' lc = some (.list (refs as))) (valN := fun i => (refs as).getD i .none) (by
      have e : (as.zip cs).length = (refs as).length := by rw [refs_len]; simp [hc.len]
      rw [e]; exact it_list) rfl (fun i h => by obtain ⟨h1, h2, e⟩ := zip_get hc.len h; rw [refs_get h1, e]) (fun _ e => by rw [e]; exact hc.top) rfl (fun Fc acc hC p hp ys hlen m' H' sees e J hJ => ?_) fun H' e => ?_
  · subst e
    obtain ⟨c1, c2, c3⟩ := hc.mem hp
    have sees2 : Sees scope m (setL m' x (.ref p.1)) := sees.set hx
    have hm2 : (setL m' x (.ref p.1)) y = some (.int t) := (sees2 _ hy).trans hm
    have nx : (setL m' x (V.ref p.1)) x = some (.ref p.1) := setL_self ..
    refine a_name (hC.loc hx) (tests_one <| t_cmp rfl <| e_sub <| e_sub <| e_name nx (hd := hdx) <| e_int <| gi_list (.own c1) <| o_item (.own c1) (by decide) (by decide) (head_at c2) <| e_int <| gi_tup <| o_itemT (by decide) (by decide) rfl <| e_name hm2 (hd := hdy) <| o_eqi <| tr_bool ?_)
    have j := hJ _ _ rfl sees2
    by_cases z : cl (headOf p.2) = t
    · rw [if_pos z] at j
      rw [if_pos (by simpa using z)]
      have few := hc.few
      have zl : (as.zip cs).length ≤ cs.length := by simp [hc.len]
      exact acc_emit (by rw [sizeLine_eq]; exact o184 few zl hlen) (e_bin <| e_call <| e_blt (hC.glo hl) (D.nb rfl) D.len (fn_ok <| cw_plain (.blt _) <| l_cons <| e_name nx (hd := hdx) <| l_nil <| c_len (.own c1) (by rw [nms_len]; exact o347 c3) <| e_int <| o_sub <| by rw [nms_len]; exact j))
    · rw [if_neg z] at j
      rw [if_neg (by simpa using z)]
      rw [show ((none : Option Int).map V.int).toList = [] from rfl, List.append_nil] at j
      exact j
  · subst e
    have : (as.zip cs).filterMap (fun p => (if cl (headOf p.2) = t then some ((p.2.length : Int) - 1) else none).map V.int) = nums (cntOf cs t) := by
      rw [zip_filterMap (fun c => (if cl (headOf c) = t then some ((c.length : Int) - 1) else none).map V.int) hc.len]
      unfold nums cntOf; rw [List.map_filterMap]
    rw [this]; exact hq
end
end Mine
end
section
open PySem PySem.W PySem.Calls PyProof.Rows PySem.SeqAt
set_option linter.unusedSectionVars false
set_option linter.unusedVariables false
set_option maxRecDepth 100000
namespace Mine
variable [ζ : Dead]
noncomputable def nodes1 (c r : List Int) (t : Int) : List Int := (r.filter fun o => decide (cl o = t)).map fun _ => headOf c
theorem nodes1_len (c r : List Int) (t : Int) : (nodes1 c r t).length ≤ r.length := by unfold nodes1; rw [List.length_map]; exact List.length_filter_le ..
theorem nodesOf_len {cs : List (List Int)} (h : ∀ c ∈ cs, c.length ≤ 10) (t : Int) : (nodesOf cs t).length ≤ 10 * cs.length := by
  induction cs with
  | nil => exact Nat.zero_le _
  | cons c cs ih =>
    have := h c List.mem_cons_self
    have := ih fun c hc => h c (List.mem_cons_of_mem _ hc)
    have h3 := nodes1_len c c.tail t
    have e : nodesOf (c :: cs) t = nodes1 c c.tail t ++ nodesOf cs t := by unfold nodesOf nodes1; rw [List.flatMap_cons]
    rw [e, List.length_append, List.length_cons]
    rw [List.length_tail] at h3
    exact o426 h3 this (by assumption)
theorem nodesOf_take {cs : List (List Int)} {i : Nat} (h : i < cs.length) (t : Int) : nodesOf (cs.take (i + 1)) t = nodesOf (cs.take i) t ++ nodes1 cs[i] cs[i].tail t := by
  unfold nodesOf
  rw [List.take_add_one, List.getElem?_eq_getElem h, List.flatMap_append]
  simp [nodes1]
theorem nodes1_snoc (c r : List Int) (o t : Int) : nodes1 c (r ++ [o]) t = nodes1 c r t ++ (if cl o = t then [headOf c] else []) := by
  unfold nodes1
  rw [List.filter_append, List.map_append]
  by_cases w : cl o = t <;> simp [w]
theorem cds_app (a b : List Int) : cds (a ++ b) = cds a ++ cds b := by unfold cds; simp
section
variable {g : G} {F : Fm} {m : Loc} {H : AH} {X : Value → List V → Loc → AH → Prop} {Q : List V → AH → Prop}
theorem w0_nodes {scope : Scope} {x y z : Str} {i0 : Expr} {px px2 px3 pz pz2 py p1 p2 p3 p4 p5 p6 p7 p8 p9 p10 ppos : Pos} {k1 k2 k3 k4 : Nat} {lc : Addr} {as : List Addr} {cs : List (List Int)} {t : Int} (hh : F.A.handled = none) (hs : F.stack ≠ []) (hc : CallsAt H lc as cs) (hm : m y = some (.int t))
    (hx : ownN scope x = true) (hz : ownN scope z = true) (hxz : x ≠ z) (hy : scope.names.lookup y = some .free) (hdx : (x == ("__debug__" : Str)) = false) (hdz : (z == ("__debug__" : Str)) = false) (hdy : (y == ("__debug__" : Str)) = false)
    (hq : ∀ H', Ext H H' → Q (cds (nodesOf cs t)) H') :
    Walk0 g F scope (.Name x px) [] (nestTail (.Subscript (.Subscript (.Name x px2) (.Constant (.int 0) k1 p1) p2) (.Constant (.int 1) k2 p3) p4) (.Name x px) i0 [] (.Name z pz)
      (.Subscript (.Name x px3) (.Slice (some (.Constant (.int 1) k3 p5)) none none p6) p7) [.Compare (.Subscript (.Name z pz2) (.Constant (.int 0) k4 p8) p9) [.Eq] [.Name y py] p10] scope ppos) (.ref lc) m H Q X := by
  refine ⟨anyT, (refs as).length, _, fun H' => H' lc = some (.list (refs as)), fun i ys m' H' => Ext H H' ∧ ys = cds (nodesOf (cs.take i) t) ∧ Sees scope m m', it_list, rfl, fun i ys m' H' qq1 => qq1.elim fun e _ => e _ _ hc.top, ⟨.refl _, rfl, .start _ _⟩, fun Fc acc hC i ys m' H' hi qq2 => qq2.elim fun e1 qq3 => qq3.elim fun e2 e3 => ?_, fun ys m' H' qq4 => qq4.elim fun e1 qq5 => qq5.elim fun e2 e3 => ?_⟩
  · subst e2
    rw [refs_len] at hi
    have hi' : i < cs.length := by rw [← hc.len]; exact hi
    rw [refs_get hi]
    have lt : (nodesOf (cs.take i) t).length ≤ 2000 := by
      have := nodesOf_len (cs := cs.take i) (fun c hm => hc.sz c (List.mem_of_mem_take hm)) t
      have := hc.few
      have h3 : (cs.take i).length ≤ cs.length := List.length_take_le' _ _
      exact o427 h3 this (by assumption)
    refine a_name (hC.loc hx) (tests_nil ?_)
    rw [if_pos rfl]
    refine acc_nest (hC.hh hh) (hC.st hs) (fun _ => rfl) fun tail ht => ?_
    subst ht
    have ea := e1 _ _ (hc.each i hi hi')
    have sz := hc.sz _ (List.getElem_mem hi')
    have ne := hc.ne _ (List.getElem_mem hi')
    refine e_slice (e_name (setL_self ..) (hd := hdx) <| p_some <| e_int <| p_none <| p_none ⟨as[i], _, some 1, none, none, rfl, .own ea, by rw [nms_len]; exact o187 sz, .int 1, .none, .none, (fun q => nomatch q), fun c hcn => ?_⟩)
    rw [cut_tail, show (nms cs[i]).tail = nms cs[i].tail by unfold nms; cases cs[i] <;> rfl]
    have s1 : Sees scope m (setL m' x (.ref as[i])) := e3.set hx
    refine ⟨anyT, (nms cs[i].tail).length, _, fun H' => H' c = some (.list (nms cs[i].tail)), fun j zs m2 H2 => (Ext H H2 ∧ H2 c = some (.list (nms cs[i].tail)) ∧ H2 as[i] = some (.list (nms cs[i]))) ∧ zs = cds (nodesOf (cs.take i) t ++ nodes1 cs[i] (cs[i].tail.take j) t) ∧ Sees scope m m2 ∧ m2 x = some (.ref as[i]), it_list, rfl, fun j zs m2 H2 qq1 => qq1.elim fun e _ => e.2.1,
      ⟨⟨e1.put hcn, put_self .., by rw [put_ne _ _ fun q => by rw [← q, ea] at hcn; cases hcn]; exact ea⟩, by simp [nodes1], s1, setL_self ..⟩, fun j zs m2 H2 hj qq1 => qq1.elim fun qq2 qq3 => qq2.elim fun f1 qq4 => qq4.elim fun f2 f3 => qq3.elim fun e2 qq5 => qq5.elim fun e4 e5 => ?_, fun zs m2 H2 qq6 => qq6.elim fun qq7 qq8 => qq7.elim fun f1 qq9 => qq9.elim fun f2 f3 => qq8.elim fun e2 qq10 => qq10.elim fun e4 e5 => ?_⟩
    · subst e2
      rw [nms_len] at hj
      rw [nms_get hj]
      have s2 : Sees scope m (setL m2 z (nm cs[i].tail[j])) := e4.set hz
      have n1 : (setL m2 z (nm cs[i].tail[j])) z = some (.tup [.int (cl cs[i].tail[j]), cd cs[i].tail[j]]) := setL_self ..
      have n2 : (setL m2 z (nm cs[i].tail[j])) x = some (.ref as[i]) := by rw [setL_ne _ _ hxz]; exact e5
      have n3 : (setL m2 z (nm cs[i].tail[j])) y = some (.int t) := (s2 _ hy).trans hm
      refine a_name (hC.loc hz) (tests_one <| t_cmp rfl <| e_sub <| e_name n1 (hd := hdz) <| e_int <| gi_tup <| o_itemT (by decide) (by decide) rfl <| e_name n3 (hd := hdy) <| o_eqi <| tr_bool ?_)
      have et : nodes1 cs[i] (cs[i].tail.take (j + 1)) t = nodes1 cs[i] (cs[i].tail.take j) t ++ (if cl cs[i].tail[j] = t then [headOf cs[i]] else []) := by
        rw [List.take_add_one, List.getElem?_eq_getElem hj]
        exact nodes1_snoc ..
      have l1 := nodes1_len cs[i] (cs[i].tail.take j) t
      have l2 := List.length_take_le' j cs[i].tail
      have l3 : cs[i].tail.length ≤ 10 := by rw [List.length_tail]; exact o188 sz
      by_cases w : cl cs[i].tail[j] = t
      · rw [if_pos (by simpa using w)]
        refine acc_emit (by rw [cds_length, sizeLine_eq, List.length_append]; exact o189 l3 l2 l1 lt) (e_sub <| e_sub <| e_name n2 (hd := hdx) <| e_int <| gi_list (.own f3) <| o_item (.own f3) (by decide) (by decide) (head_at ne) <| e_int <| gi_tup <| o_itemT (by decide) (by decide) rfl ⟨⟨f1, f2, f3⟩, ?_, s2, n2⟩)
        rw [et, if_pos w, ← List.append_assoc, cds_app _ [headOf cs[i]]]
        rfl
      · rw [if_neg (by simpa using w)]
        refine ⟨⟨f1, f2, f3⟩, ?_, s2, n2⟩
        rw [et, if_neg w, List.append_nil]
    · subst e2
      rw [nms_len, List.take_of_length_le (Nat.le_refl _)]
      exact ⟨f1, by rw [nodesOf_take hi'], e4⟩
  · subst e2
    rw [refs_len, hc.len, List.take_of_length_le (Nat.le_refl _)]
    exact hq _ e1
end
end Mine
end
section
open PySem PySem.W PySem.Calls PyProof.Rows PySem.SeqAt
set_option linter.unusedSectionVars false
set_option linter.unusedVariables false
set_option maxRecDepth 100000
namespace Mine
variable [ζ : Dead]
noncomputable def cntS (cs : List (List Int)) (k : Int) : Int := (cntOf cs (cl k)).sum
noncomputable def cntV (stage : Nat) (cs : List (List Int)) (k : Int) : Int := if cntS cs k = 0 then (if stage = 2 then -1 else 0) else cntS cs k
noncomputable def keyAt (told : List Int) (p : Int) : Int := told.getD p.toNat 0
noncomputable def RowOk (H : AH) (stage : Nat) (cs : List (List Int)) (a : Addr) (k : Int) : Prop := ∃ na, H a = some (.list [cd k, cd k, .int (cntV stage cs k), .ref na]) ∧ H na = some (.list (cds (nodesOf cs (cl k))))
noncomputable def HeadOk (H : AH) (stage : Nat) (a : Addr) (rd : List Int) : Prop := (stage = 0 ∧ H a = some (.list [.none, .int 0, .int 0])) ∨ (stage = 1 ∧ ∃ l, H a = some (.list [.ref l, .int 0, .int 0]) ∧ H l = some (.list (cds rd))) ∨
  (stage = 2 ∧ ∃ l, H a = some (.list [.ref l, .int rd.length, .int 0]) ∧ H l = some (.list []))
noncomputable def rdyOf (cs : List (List Int)) (ks : List Int) : List Int := ks.filter fun k => decide (cntS cs k = 0)
structure DueAt (H : AH) (stage : Nat) (cs : List (List Int)) (keys : List Int) (l h : Addr) (as : List Addr) : Prop where
  top : H l = some (.list (refs (h :: as)))
  len : as.length = keys.length
  rows : ∀ p ∈ as.zip keys, RowOk H stage cs p.1 p.2
  head : HeadOk H stage h (rdyOf cs keys)
noncomputable def Fz (H : AH) (lr ly a : Addr) (o : O) : Prop := H a = some o ∧ a ≠ lr ∧ a ≠ ly
noncomputable def RowFz (H : AH) (lr ly : Addr) (stage : Nat) (cs : List (List Int)) (a : Addr) (k : Int) : Prop := ∃ na, Fz H lr ly a (.list [cd k, cd k, .int (cntV stage cs k), .ref na]) ∧ Fz H lr ly na (.list (cds (nodesOf cs (cl k))))
structure DJ (H0 : AH) (stage : Nat) (cs : List (List Int)) (told ms : List Int) (lc lt lm lr ly : Addr) (i : Nat) (as : List Addr) (m : Loc) (H : AH) : Prop where
  base : Ext H0 H
  nr : H0 lr = none
  ny : H0 ly = none
  ne : lr ≠ ly
  fT : Fz H lr ly lt (.list (nms told))
  fM : Fz H lr ly lm (.list (nums ms))
  r : H lr = some (.list (refs as))
  y : H ly = some (.list (cds (rdyOf cs ((ms.take i).map (keyAt told)))))
  len : as.length = i
  rows : ∀ p ∈ as.zip ((ms.take i).map (keyAt told)), RowFz H lr ly stage cs p.1 p.2
  m1 : m "calls" = some (.ref lc)
  m2 : m "stage" = some (.int stage)
  m3 : m "told" = some (.ref lt)
  m4 : m "rows" = some (.ref lr)
  m5 : m "ready" = some (.ref ly)
theorem idxs_len (ks : List Int) : (idxs ks).length ≤ 7 := by
  unfold idxs
  exact Nat.le_trans (List.length_filterMap_le _ _) (by decide)
theorem idxs_mem {ks : List Int} {p : Int} (h : p ∈ idxs ks) : 0 ≤ p ∧ p.toNat < ks.length := by
  unfold idxs at h
  rw [List.mem_filterMap] at h
  obtain ⟨k, _, h⟩ := h
  split at h
  · rename_i hc
    cases h
    have := List.idxOf_lt_length_of_mem (a := (k : Int)) (l := ks) (by simpa using hc)
    exact o428 this
  · cases h
theorem refs_snoc (as : List Addr) (a : Addr) : refs (as ++ [a]) = refs as ++ [.ref a] := by unfold refs; simp
theorem take_snoc {α β : Type} {xs : List α} {i : Nat} (h : i < xs.length) (f : α → β) : (xs.take (i + 1)).map f = (xs.take i).map f ++ [f xs[i]] := by
  rw [List.take_add_one, List.getElem?_eq_getElem h, List.map_append]; rfl
noncomputable def ExtX (lr ly : Addr) (H H' : AH) : Prop := ∀ a o, H a = some o → a ≠ lr → a ≠ ly → H' a = some o
theorem ExtX.refl (lr ly : Addr) (H : AH) : ExtX lr ly H H := fun _ _ e _ _ => e
theorem ExtX.ext {lr ly : Addr} {H H' H'' : AH} (x : ExtX lr ly H H') (e : Ext H' H'') : ExtX lr ly H H'' := fun a o h n1 n2 => e _ _ (x a o h n1 n2)
theorem ExtX.new {lr ly b : Addr} {H H' : AH} {o' : O} (x : ExtX lr ly H H') (n : H' b = none) : ExtX lr ly H (put H' b o') := x.ext ((Ext.refl _).put n)
theorem ExtX.setR {lr ly : Addr} {H H' : AH} {o' : O} (x : ExtX lr ly H H') : ExtX lr ly H (put H' lr o') := fun a o h n1 n2 => by rw [put_ne _ _ n1]; exact x a o h n1 n2
theorem ExtX.setY {lr ly : Addr} {H H' : AH} {o' : O} (x : ExtX lr ly H H') : ExtX lr ly H (put H' ly o') := fun a o h n1 n2 => by rw [put_ne _ _ n2]; exact x a o h n1 n2
theorem Fz.x {H H' : AH} {lr ly a : Addr} {o : O} (z : Fz H lr ly a o) (e : ExtX lr ly H H') : Fz H' lr ly a o := ⟨e _ _ z.1 z.2.1 z.2.2, z.2⟩
theorem ExtX.base {lr ly : Addr} {H0 H H' : AH} (b : Ext H0 H) (e : ExtX lr ly H H') (nr : H0 lr = none) (ny : H0 ly = none) : Ext H0 H' := fun a o h => e _ _ (b _ _ h) (fun q => by subst q; rw [nr] at h; cases h) (fun q => by subst q; rw [ny] at h; cases h)
theorem rdy_snoc (cs : List (List Int)) (ks : List Int) (k : Int) : rdyOf cs (ks ++ [k]) = rdyOf cs ks ++ (if cntS cs k = 0 then [k] else []) := by
  unfold rdyOf; rw [List.filter_append]; by_cases z : cntS cs k = 0 <;> simp [z]
theorem DJ.step {H0 H H' : AH} {stage : Nat} {cs : List (List Int)} {told ms : List Int} {lc lt lm lr ly a : Addr} {i : Nat} {as : List Addr} {m m' : Loc} (j : DJ H0 stage cs told ms lc lt lm lr ly i as m H) (hi : i < ms.length) (x : ExtX lr ly H H')
    (hr : H' lr = some (.list (refs as ++ [.ref a]))) (hy : H' ly = some (.list (cds (rdyOf cs ((ms.take i).map (keyAt told)) ++ (if cntS cs (keyAt told ms[i]) = 0 then [keyAt told ms[i]] else [])))))
    (row : RowFz H' lr ly stage cs a (keyAt told ms[i])) (hm : ∀ n ∈ (["calls", "stage", "told", "rows", "ready"] : List String), m' n = m n) : DJ H0 stage cs told ms lc lt lm lr ly (i + 1) (as ++ [a]) m' H' where
  base := x.base j.base j.nr j.ny
  nr := j.nr
  ny := j.ny
  ne := j.ne
  fT := j.fT.x x
  fM := j.fM.x x
  r := by rw [refs_snoc]; exact hr
  y := by rw [take_snoc hi, rdy_snoc]; exact hy
  len := by rw [List.length_append, j.len]; rfl
  rows := fun p hp => by
    rw [take_snoc hi, List.zip_append (by rw [j.len, List.length_map, List.length_take]; exact o175 hi)] at hp
    rcases List.mem_append.mp hp with hp | hp
    · obtain ⟨na, f1, f2⟩ := j.rows p hp
      exact ⟨na, f1.x x, f2.x x⟩
    · have : p = (a, keyAt told ms[i]) := by simpa using hp
      subst this
      exact row
  m1 := (hm _ (by decide)).trans j.m1
  m2 := (hm _ (by decide)).trans j.m2
  m3 := (hm _ (by decide)).trans j.m3
  m4 := (hm _ (by decide)).trans j.m4
  m5 := (hm _ (by decide)).trans j.m5
end Mine
end
section
open PySem PySem.W PySem.Calls PyProof.Rows PySem.SeqAt
set_option linter.unusedSectionVars false
set_option linter.unusedVariables false
set_option maxRecDepth 100000
namespace Mine
variable [ζ : Dead]
section
variable {g : G} {F : Fm} {m : Loc} {H : AH} {s : Shared} {X : Value → List V → Loc → AH → Prop}
noncomputable abbrev kTail' (P : Loc → AH → Prop) (Q : Fl → Loc → AH → Prop) : Fl → Loc → AH → Prop := fun f m H => match f with | .next => P m H | f => Q f m H
theorem s_mid {Q : Fl → Loc → AH → Prop} (P : Loc → AH → Prop) {st : Stmt} {rest : List Stmt} (h : WS g F (exec st F.env) m H (kTail' P Q) X) (t : ∀ m H, P m H → WS g F (execs rest F.env) m H Q X) : WS g F (execs (st :: rest) F.env) m H Q X :=
  s_cons fun s S => h.run S (fun v s₁ a m₁ H₁ r₁ S₁ k₁ h₁ => ⟨a, m₁, H₁, r₁, S₁, k₁, by
    cases a with
    | next => exact t _ _ h₁
    | _ => exact h₁⟩) (fun _ _ x => x)
variable {Q : V → Loc → AH → Prop}
theorem nms_at {told : List Int} {p : Int} (h0 : 0 ≤ p) (h : p.toNat < told.length) : (nms told)[p.toNat]? = some (.tup [.int (cl (keyAt told p)), cd (keyAt told p)]) := by
  unfold nms keyAt
  rw [List.getElem?_map, List.getD_eq_getElem?_getD, List.getElem?_eq_getElem h]; rfl
theorem nums_get {ns : List Int} {i : Nat} (h : i < ns.length) : (nums ns).getD i .none = .int ns[i] := by
  unfold nums; rw [List.getD_eq_getElem?_getD, List.getElem?_map, List.getElem?_eq_getElem h]; rfl
theorem cntV_eq (stage : Nat) (cs : List (List Int)) (k : Int) : cntV stage cs k = if cntS cs k = 0 then (if stage = 2 then -1 else 0) else cntS cs k := rfl
theorem take_len_map {α β : Type} (xs : List α) (n : Nat) (f : α → β) : ((xs.take n).map f).length ≤ xs.length := by rw [List.length_map, List.length_take]; exact o191
theorem ExtX.ext' {lr ly : Addr} {H H' H'' : AH} (x : ExtX lr ly H H') (e : ExtX lr ly H' H'') : ExtX lr ly H H'' := fun a o h n1 n2 => e _ _ (x a o h n1 n2) n1 n2
theorem RowFz.ok {H : AH} {lr ly : Addr} {stage : Nat} {cs : List (List Int)} {a : Addr} {k : Int} (x : RowFz H lr ly stage cs a k) : RowOk H stage cs a k := by
  obtain ⟨na, f1, f2⟩ := x
  exact ⟨na, f1.1, f2.1⟩
theorem RowOk.ext {H H' : AH} {stage : Nat} {cs : List (List Int)} {a : Addr} {k : Int} (x : RowOk H stage cs a k) (e : Ext H H') : RowOk H' stage cs a k := by
  obtain ⟨na, f1, f2⟩ := x
  exact ⟨na, e _ _ f1, e _ _ f2⟩
theorem HeadOk.ext {H H' : AH} {stage : Nat} {a : Addr} {rd : List Int} (x : HeadOk H stage a rd) (e : Ext H H') : HeadOk H' stage a rd := by
  rcases x with ⟨q, f⟩ | ⟨q, l, f1, f2⟩ | ⟨q, l, f1, f2⟩
  · exact .inl ⟨q, e _ _ f⟩
  · exact .inr (.inl ⟨q, l, e _ _ f1, e _ _ f2⟩)
  · exact .inr (.inr ⟨q, l, e _ _ f1, e _ _ f2⟩)
theorem ne_new {H : AH} {a b : Addr} {o : O} (h : H a = some o) (n : H b = none) : a ≠ b := fun q => by subst q; rw [n] at h; cases h
theorem dj_start {H : AH} {told ms : List Int} {o1 o2 : O} {stage : Nat} {cs : List (List Int)} {lc lt lk lr ly li lm : Addr} {m : Loc} (n1 : H lt = none) (n2 : put H lt (.list (nms told)) lk = none) (n3 : put (put H lt (.list (nms told))) lk o1 lr = none)
    (n4 : put (put (put H lt (.list (nms told))) lk o1) lr (.list []) ly = none) (n5 : put (put (put (put H lt (.list (nms told))) lk o1) lr (.list [])) ly (.list []) li = none)
    (n6 : put (put (put (put (put H lt (.list (nms told))) lk o1) lr (.list [])) ly (.list [])) li o2 lm = none)
    (m1 : m "calls" = some (.ref lc)) (m2 : m "stage" = some (.int stage)) (m3 : m "told" = some (.ref lt)) (m4 : m "rows" = some (.ref lr)) (m5 : m "ready" = some (.ref ly)) :
    DJ H stage cs told ms lc lt lm lr ly 0 [] m (put (put (put (put (put (put H lt (.list (nms told))) lk o1) lr (.list [])) ly (.list [])) li o2) lm (.list (nums ms))) := by
  have a1 := put_self H lt (.list (nms told))
  have e1 := (Ext.refl H).put (o := .list (nms told)) n1
  generalize put H lt (.list (nms told)) = H1 at *
  have e2 := (Ext.refl H1).put (o := o1) n2
  generalize put H1 lk o1 = H2 at *
  have e3 := (Ext.refl H2).put (o := .list []) n3
  have a3 := put_self H2 lr (.list [])
  generalize put H2 lr (.list []) = H3 at *
  have e4 := (Ext.refl H3).put (o := .list []) n4
  have a4 := put_self H3 ly (.list [])
  generalize put H3 ly (.list []) = H4 at *
  have e5 := (Ext.refl H4).put (o := o2) n5
  generalize put H4 li o2 = H5 at *
  have e6 := (Ext.refl H5).put (o := .list (nums ms)) n6
  have a6 := put_self H5 lm (.list (nums ms))
  generalize put H5 lm (.list (nums ms)) = H6 at *
  have b3 := e5 _ _ (e4 _ _ a3)
  have b4 := e5 _ _ a4
  have c1 := e2 _ _ a1
  exact ⟨e1.trans (e2.trans (e3.trans (e4.trans (e5.trans e6)))), (e1.trans e2).no n3, (e1.trans (e2.trans e3)).no n4, ne_new a3 n4, ⟨e6 _ _ (e5 _ _ (e4 _ _ (e3 _ _ c1))), ne_new c1 n3, ne_new (e3 _ _ c1) n4⟩,
    ⟨a6, (ne_new b3 n6).symm, (ne_new b4 n6).symm⟩, e6 _ _ b3, e6 _ _ b4, rfl, fun p hp => (by cases hp), m1, m2, m3, m4, m5⟩
set_option maxHeartbeats 2000000 in
theorem due_spec (D : Gd g) (hl : F.lvl < 99) (hh : F.A.handled = none) {lc : Addr} {ac : List Addr} {cs : List (List Int)} {stage : Nat} (hst : stage ≤ 2) (hc : CallsAt H lc ac cs)
    (h : ∀ (ms : List Int) l hd as H', ms.Perm (idxs (cs.flatten.map cl)) → ms.Pairwise (· ≤ ·) → Ext H H' → DueAt H' stage cs (ms.map (keyAt cs.flatten)) l hd as → Q (.ref l) m H') : WCode g F (.ref 165) [.ref lc, .int stage] m H Q X := by
  refine d_code (D.lk rfl) (D.cd rfl) rfl rfl rfl rfl rfl rfl rfl (lv100 hl rfl) (binds_peek (fun vs => [("calls", vs.getD 0 .none), ("stage", vs.getD 1 .none)]) (fun vs S hv => ?_) (fun h vs r => ?_)) (bs := [("calls", .ref lc), ("stage", .int stage)]) rfl fun F' hF => ?_
  · obtain ⟨v, w, rfl⟩ := len2 hv; rw [D.K]; rfl
  · obtain ⟨v, r', rfl, rv, rr⟩ := r.uncons; obtain ⟨w, r', rfl, rw', rr⟩ := rr.uncons; exact ⟨v, _, rfl, rv, w, [], rfl, rw', rfl⟩
  have fl : cs.flatten.length ≤ 2000 := by
    have := flat_len hc.sz
    have := hc.few
    exact o429 this (by assumption)
  generalize hT : cs.flatten = told at *
  refine s_cons <| s_setcomp (by first | exact .inl (swaps_by hF.scope rfl) | exact .inr (swaps_by hF.scope rfl)) (hF.loc rfl) (CompHead.of hF rfl rfl) (fun _ => rfl) (hF.hh hh) hF.st (fun Fc acc it => turn_two ..) <| e_name rfl <| w0_told (hF.hh hh) hF.st hc rfl rfl rfl rfl fun lt hlt => ?_
  rw [hT]
  refine s_cons <| s_setcomp (by first | exact .inl (swaps_by hF.scope rfl) | exact .inr (swaps_by hF.scope rfl)) (hF.cel rfl) (CompHead.of hF rfl rfl) (fun _ => rfl) (hF.hh hh) hF.st (fun Fc acc it => turn_one ..) <| e_name rfl <| w0_kinds (hF.hh hh) (put_self ..) (by exact o193 fl) rfl rfl (by decide) rfl fun lk hlk => ?_
  refine s_cons <| s_assign (hF.loc rfl) rfl <| e_list <| l_nil ⟨by simp, fun lr hlr => ?_⟩
  refine s_cons <| s_assign (hF.loc rfl) rfl <| e_list <| l_nil ⟨by simp, fun ly hly => ?_⟩
  have EK := ((Ext.refl (put (put H lt (.list (nms told))) lk (.list (nums (told.map cl))))).put (o := .list []) hlr).put (o := .list []) hly
  refine s_cons <| s_for (fun _ => rfl) <| e_call <| e_blt (hF.glo rfl) (D.nb rfl) D.sorted (fn_ok <| cw_plain (.blt _) <| l_cons <| e_comp (CompHead.of hF rfl rfl) (fun _ => rfl) (hF.hh hh) hF.st (fun Fc acc it => turn_one ..) <|
    e_call <| e_blt (hF.glo rfl) (D.nb rfl) D.range (fn_ok <| cw_plain (.type _) <| l_cons <| e_int <| l_nil <| c_range1 <| w0_idx (kinds := told.map cl) (lk := lk) (hF.hh hh) ?_ (by rw [List.length_map]; exact o193 fl) rfl rfl rfl rfl rfl rfl fun li hli => l_nil <| c_sorted (.own (put_self ..)) (by have := idxs_len (told.map cl); exact o194 this) fun lm ms hp hs hlm => ?_))
  · exact EK _ _ (put_self ..)
  refine for_anyT it_list rfl (fun i m' H' => ∃ as, DJ H stage cs told ms lc lt lm lr ly i as m' H') (hF.hh hh) hF.st (fun i m' H' qq1 => qq1.elim fun as j => j.fM.1) ⟨[], dj_start hlt hlk hlr hly hli hlm rfl rfl rfl rfl rfl⟩ (fun i m' H' hi qq2 => qq2.elim fun as j => ?_) (fun m' H' qq3 => qq3.elim fun as j => ?_)
  · rw [ints_length] at hi
    rw [nums_get hi]
    obtain ⟨p0, p1⟩ := idxs_mem (hp.mem_iff.mp (List.getElem_mem hi))
    rw [List.length_map] at p1
    have nk := nms_at p0 p1
    have jc := hc.ext j.base
    refine a_name (hF.loc rfl) ?_
    refine s_cons <| s_assign1 rfl rfl rfl <| e_sub <| e_name (by exact j.m3) <| e_name rfl <| gi_list (.own j.fT.1) <| o_item (.own j.fT.1) p0 (by exact o352 fl p1) nk <| a_tuple (hF.hh hh) rfl <| a_name (hF.cel rfl) <| a_name (hF.loc rfl) ?_
    refine s_cons <| s_assign (hF.loc rfl) rfl <| e_call <| e_blt (hF.glo rfl) (D.nb rfl) D.sum (fn_ok <| cw_plain (.blt _) <| l_cons <| e_comp (CompHead.of hF rfl rfl) (fun _ => rfl) (hF.hh hh) hF.st (fun Fc acc it => turn_one ..) <| e_name (by exact j.m1) <|
      w0_cnt (t := cl (keyAt told ms[i])) D (hF.hh hh) jc rfl rfl rfl rfl rfl rfl fun b hb => l_nil <| c_sum (hF.hh hh) (.own (put_self ..)) ?_)
    have x1 := (ExtX.refl lr ly H').new (o' := .list (nums (cntOf cs (cl (keyAt told ms[i]))))) hb
    have r1 := ((Ext.refl H').put (o := .list (nums (cntOf cs (cl (keyAt told ms[i]))))) hb)
    generalize put H' b _ = H1 at *
    refine s_cons <| s_setcomp (by first | exact .inl (swaps_by hF.scope rfl) | exact .inr (swaps_by hF.scope rfl)) (hF.loc rfl) (CompHead.of hF rfl rfl) (fun _ => rfl) (hF.hh hh) hF.st (fun Fc acc it => turn_two ..) <| e_name (by exact j.m1) <|
      w0_nodes (t := cl (keyAt told ms[i])) (hF.hh hh) hF.st (jc.ext r1) rfl rfl rfl (by decide) rfl rfl rfl rfl fun H2 r2 na hna => ?_
    have r12 := r1.trans r2
    have y2 := r12 _ _ j.y
    have l2 := r12 _ _ j.r
    have nr := (ne_new l2 hna).symm
    have ny := (ne_new y2 hna).symm
    have x3 := ((ExtX.refl lr ly H').ext r12).new (o' := .list (cds (nodesOf cs (cl (keyAt told ms[i]))))) hna
    have a3 := put_self H2 na (.list (cds (nodesOf cs (cl (keyAt told ms[i])))))
    have y3 := ((Ext.refl H2).put (o := .list (cds (nodesOf cs (cl (keyAt told ms[i]))))) hna) _ _ y2
    have l3 := ((Ext.refl H2).put (o := .list (cds (nodesOf cs (cl (keyAt told ms[i]))))) hna) _ _ l2
    generalize put H2 na _ = H3 at *
    have fy : (rdyOf cs ((ms.take i).map (keyAt told))).length ≤ 7 := by
      have h1 : (rdyOf cs ((ms.take i).map (keyAt told))).length ≤ ((ms.take i).map (keyAt told)).length := List.length_filter_le ..
      have h2 := take_len_map ms i (keyAt told)
      have h3 := idxs_len (told.map cl)
      have h4 := hp.length_eq
      exact o430 h4 h2 h3 h1
    have fr : as.length ≤ 7 := by
      have h3 := idxs_len (told.map cl)
      have h4 := hp.length_eq
      have := j.len
      exact o431 h4 this h3 hi
    generalize hk : keyAt told ms[i] = k at *
    refine s_mid (fun m4 H4 => ExtX lr ly H3 H4 ∧ H4 lr = some (.list (refs as)) ∧ H4 ly = some (.list (cds (rdyOf cs ((ms.take i).map (keyAt told)) ++ (if cntS cs k = 0 then [k] else [])))) ∧ m4 "count" = some (.int (cntV stage cs k)) ∧ m4 "name" = some (cd k) ∧ m4 "nodes" = some (.ref na) ∧ ∀ n ∈ (["calls", "stage", "told", "rows", "ready"] : List String), m4 n = m' n) ?_ fun m4 H4 qq1 => qq1.elim fun b1 qq2 => qq2.elim fun b2 qq3 => qq3.elim fun b3 qq4 => qq4.elim fun b4 qq5 => qq5.elim fun b5 qq6 => qq6.elim fun b6 b7 => ?_
    · refine s_if <| t_cmp rfl <| e_name rfl <| e_int <| o_eqi <| tr_bool ?_
      have zc : (cntOf cs (cl k)).sum = cntS cs k := rfl
      rw [zc]
      by_cases z : cntS cs k = 0
      · rw [if_pos (by simpa using z)]
        refine s_cons <| s_expr <| e_meth <| e_name (by exact j.m5) (me_ok (meth_list (.own y3) PySem.F.slot_list_append PySem.F.type_list_append) <| cw_plain (.blt _) <| l_cons <| e_name rfl <| l_nil <| c_append y3 (by rw [cds_length]; exact o197 fy) ?_)
        refine s_cons <| s_assign (hF.loc rfl) rfl <| e_if <| t_cmp rfl <| e_name (by exact j.m2) <| e_int <| o_eqi <| tr_bool ?_
        have ey : (put H3 ly (.list (cds (rdyOf cs ((ms.take i).map (keyAt told))) ++ [cd k]))) ly = some (.list (cds (rdyOf cs ((ms.take i).map (keyAt told)) ++ (if cntS cs k = 0 then [k] else [])))) := by
          rw [put_self, if_pos z, cds_app]; rfl
        have er : (put H3 ly (.list (cds (rdyOf cs ((ms.take i).map (keyAt told))) ++ [cd k]))) lr = some (.list (refs as)) := by rw [put_ne _ _ j.ne]; exact l3
        by_cases w : stage = 2
        · rw [if_pos (by subst w; rfl)]
          refine e_un <| e_int <| o_neg <| s_nil ⟨(ExtX.refl _ _ _).setY, er, ey, by rw [cntV_eq, if_pos z, if_pos w]; rfl, rfl, rfl, ?_⟩
          intro n hn
          simp only [List.mem_cons, List.not_mem_nil, or_false] at hn
          rcases hn with rfl | rfl | rfl | rfl | rfl <;> rfl
        · rw [if_neg (by simp; exact o198 w)]
          refine e_int <| s_nil ⟨(ExtX.refl _ _ _).setY, er, ey, by rw [cntV_eq, if_pos z, if_neg w]; rfl, rfl, rfl, ?_⟩
          intro n hn
          simp only [List.mem_cons, List.not_mem_nil, or_false] at hn
          rcases hn with rfl | rfl | rfl | rfl | rfl <;> rfl
      · rw [if_neg (by simpa using z)]
        refine s_nil ⟨ExtX.refl _ _ _, l3, by rw [if_neg z, List.append_nil]; exact y3, by rw [cntV_eq, if_neg z]; rfl, rfl, rfl, ?_⟩
        intro n hn
        simp only [List.mem_cons, List.not_mem_nil, or_false] at hn
        rcases hn with rfl | rfl | rfl | rfl | rfl <;> rfl
    · have m4r : m4 "rows" = some (.ref lr) := (b7 _ (by simp)).trans j.m4
      refine s_cons <| s_expr <| e_meth <| e_name m4r (me_ok (meth_list (.own b2) PySem.F.slot_list_append PySem.F.type_list_append) <| cw_plain (.blt _) <| l_cons <| e_list <| l_cons <| e_name b5 <| l_cons <| e_name b5 <| l_cons <| e_name b4 <| l_cons <| e_name b6 <| l_nil ⟨Nat.le_of_ble_eq_true rfl, fun a ha => l_nil ?_⟩)
      have na1 := (ne_new b2 ha).symm
      have na2 := (ne_new b3 ha).symm
      have e4 := (Ext.refl H4).put (o := .list [cd k, cd k, .int (cntV stage cs k), .ref na]) ha
      have a4 := put_self H4 a (.list [cd k, cd k, .int (cntV stage cs k), .ref na])
      refine c_append (e4 _ _ b2) (by rw [refs_len]; exact o197 fr) (s_nil ⟨as ++ [a], j.step hi (((x3.ext' b1).ext e4).setR) (put_self ..) ?_ ?_ b7⟩)
      · rw [put_ne _ _ (Ne.symm j.ne), hk]; exact e4 _ _ b3
      · rw [hk]
        exact ⟨na, ⟨by rw [put_ne _ _ na1]; exact a4, na1, na2⟩, ⟨by rw [put_ne _ _ nr]; exact e4 _ _ (b1 _ _ a3 nr ny), nr, ny⟩⟩
  · rw [ints_length] at j
    have jr := j.rows
    have jl := j.len
    have jy := j.y
    rw [List.take_of_length_le (Nat.le_refl _)] at jr jy
    have fy : (rdyOf cs (ms.map (keyAt told))).length ≤ 7 := by
      have h1 : (rdyOf cs (ms.map (keyAt told))).length ≤ (ms.map (keyAt told)).length := List.length_filter_le ..
      rw [List.length_map] at h1
      have h3 := idxs_len (told.map cl)
      have h4 := hp.length_eq
      exact o432 h4 h3 h1
    have fr : as.length ≤ 7 := by
      have h3 := idxs_len (told.map cl)
      have h4 := hp.length_eq
      exact o433 h4 jl h3
    refine s_nil <| s_cons <| s_ret ?_
    refine e_bin <| e_list <| l_cons <| e_sub <| e_list <| l_cons <| e_list <| l_cons <| e_none <| l_cons <| e_int <| l_cons <| e_int <| l_nil ⟨Nat.le_of_ble_eq_true rfl, fun a0 n0 => ?_⟩
    refine l_cons <| e_list <| l_cons <| e_name (by exact j.m5) <| l_cons <| e_int <| l_cons <| e_int <| l_nil ⟨Nat.le_of_ble_eq_true rfl, fun a1 n1 => ?_⟩
    refine l_cons <| e_list <| l_cons <| e_list <| l_nil ⟨Nat.le_of_ble_eq_true rfl, fun a2 n2 => l_cons <| e_call <| e_blt (hF.glo rfl) (D.nb rfl) D.len (fn_ok <| cw_plain (.blt _) <| l_cons <| e_name (by exact j.m5) <| l_nil <| c_len (xs := cds (rdyOf cs (ms.map (keyAt told)))) (.own ?_) (by rw [cds_length]; exact o357 fy) <| l_cons <| e_int <| l_nil ⟨Nat.le_of_ble_eq_true rfl, fun a3 n3 => l_nil ⟨Nat.le_of_ble_eq_true rfl, fun at' nt => ?_⟩⟩)⟩
    · exact (((Ext.refl H').put n0).put n1).put n2 _ _ jy
    have e0 := (Ext.refl H').put (o := .list [.none, .int 0, .int 0]) n0
    have p0 := put_self H' a0 (.list [.none, .int 0, .int 0])
    generalize put H' a0 _ = H0 at *
    have e1 := (Ext.refl H0).put (o := .list [.ref ly, .int 0, .int 0]) n1
    have p1 := put_self H0 a1 (.list [.ref ly, .int 0, .int 0])
    generalize put H0 a1 _ = H1 at *
    have e2 := (Ext.refl H1).put (o := .list []) n2
    have p2 := put_self H1 a2 (.list [])
    generalize put H1 a2 _ = H2 at *
    rw [cds_length] at nt ⊢
    have e3 := (Ext.refl H2).put (o := .list [.ref a2, .int (rdyOf cs (ms.map (keyAt told))).length, .int 0]) n3
    have p3 := put_self H2 a3 (.list [.ref a2, .int (rdyOf cs (ms.map (keyAt told))).length, .int 0])
    generalize put H2 a3 _ = H3 at *
    have e4 := (Ext.refl H3).put (o := .list [.ref a0, .ref a1, .ref a3]) nt
    have p4 := put_self H3 at' (.list [.ref a0, .ref a1, .ref a3])
    generalize put H3 at' _ = H4 at *
    have e14 := e2.trans (e3.trans e4)
    have eA : Ext H' H4 := e0.trans (e1.trans e14)
    obtain ⟨hd, hx, hk⟩ : ∃ hd, ([.ref a0, .ref a1, .ref a3] : List V)[(stage : Int).toNat]? = some (.ref hd) ∧ HeadOk H4 stage hd (rdyOf cs (ms.map (keyAt told))) := by
      exact below3 (P := fun stage => ∃ hd, ([.ref a0, .ref a1, .ref a3] : List V)[((stage : Nat) : Int).toNat]? = some (.ref hd) ∧ HeadOk H4 stage hd (rdyOf cs (ms.map (keyAt told)))) ⟨a0, rfl, .inl ⟨rfl, e1.trans e14 _ _ p0⟩⟩ ⟨a1, rfl, .inr (.inl ⟨rfl, ly, e14 _ _ p1, eA _ _ jy⟩)⟩ ⟨a3, rfl, .inr (.inr ⟨rfl, a2, e4 _ _ p3, e4 _ _ (e3 _ _ p2)⟩)⟩ stage (Nat.lt_succ_of_le hst)
    refine e_name (by exact j.m2) <| gi_list (.own p4) <| o_item (.own p4) (by exact o201) (by exact o358 hst) hx <| l_nil ⟨Nat.le_of_ble_eq_true rfl, fun b nb => ?_⟩
    have e5 := (Ext.refl H4).put (o := .list [.ref hd]) nb
    have p5 := put_self H4 b (.list [.ref hd])
    generalize put H4 b _ = H5 at *
    refine e_name (by exact j.m4) <| o_concat (.own p5) (.own (e5 _ _ (eA _ _ j.r))) (by rw [refs_len]; simp; exact o202 fr) fun c nc => ?_
    have e6 := (Ext.refl H5).put (o := .list ([.ref hd] ++ refs as)) nc
    have p6 := put_self H5 c (.list ([.ref hd] ++ refs as))
    generalize put H5 c _ = H6 at *
    have eZ := eA.trans (e5.trans e6)
    exact h ms c hd as H6 hp hs (j.base.trans eZ) ⟨p6, by rw [jl, List.length_map], fun p hp => (jr p hp).ok.ext eZ, hk.ext (e5.trans e6)⟩
end
end Mine
end
section
open PySem PySem.W PySem.Calls PyProof.Rows PySem.SeqAt
set_option linter.unusedSectionVars false
set_option linter.unusedVariables false
set_option maxRecDepth 100000
namespace Mine
variable [ζ : Dead]
theorem cyc_q {g : G} (D : Gd g) : OwnClsQ "CycleError" 55 [.type "ValueError", .type "Exception", .type "BaseException", .type "object"] "ValueError.__new__" g.mg g.B := by
  have hok : ∀ N, nsOkIn (Mine.kx.heap_1 g.w.params) N = true → nsOkIn g.K N = true := fun N h => by rw [D.K]; exact h
  have hno : ∀ N x, nsIn (Mine.kx.heap_1 g.w.params) N x = some none → nsIn g.K N x = some none := fun N x h => by rw [D.K]; exact h
  refine ⟨D.own.bound, _, _, _, _, _, _, _, _, _, _, _, _, _, _, _, _, _, g.kin 55 (excClassObj _ _ _ _ _ _ _ _ _ _ _ _ _ _ _ _ _ _) (by rw [D.K]; rfl), .of_isNs (isNs_of_in g.kin (hok _ (by kernel_rfl))), fun n hn => ?_, .base⟩
  simp only [quietNames, List.mem_cons, List.not_mem_nil, or_false] at hn
  rcases hn with rfl | rfl | rfl | rfl <;> exact nsMap_none_of_in g.kin (hok _ (by kernel_rfl)) (hno _ _ (by kernel_rfl))
section
variable {g : G} {F : Fm} {m : Loc} {H : AH} {s : Shared} {X : Value → List V → Loc → AH → Prop}
theorem x_argsOwn {a : Addr} {as : List V} {Q : V → Loc → AH → Prop} (D : Gd g) (ha : H a = some (.exc (.ref 55) as)) (h : Q (.tup as) m H) : W1 g F VR (.ref a) (fun v => getAttr v "args" true) m H Q X := fun s v S r => by
  rw [VR.ref_iff] at r; subst r
  obtain ⟨o, vs, v, e, hc, hi, hd, h0, rv⟩ := (S.obj a _ ha).2
  obtain ⟨t0, ws, ep, rfl, e', r'⟩ := VR.tup_iff.mp rv
  have O := (cyc_q D).keeps S.base
  obtain ⟨hh, gg, d, t, os⟩ := s
  exact args_of_own PySem.F.attrBase_ValueError O e hc hd h0 (OkP.now S rfl rfl rfl rv h)
end
end Mine
end
section
open PySem PySem.W PySem.Calls PyProof.Rows PySem.SeqAt
set_option linter.unusedSectionVars false
set_option linter.unusedVariables false
set_option maxRecDepth 100000
namespace Mine
variable [ζ : Dead]
theorem m_addB (p : Params) : MethB (Mine.kx.heap_1 p) 137 "add" 87 := ⟨rfl, rfl, rfl, rfl, rfl, rfl, rfl, rfl⟩
section
variable {g : G} {F : Fm} {m : Loc} {H : AH} {X : Value → List V → Loc → AH → Prop} {Q : List V → AH → Prop}
theorem w0_names {scope : Scope} {x y : Str} {px py py2 pt : Pos} {k : Nat} {lt : Addr} {told : List Int} (hh : F.A.handled = none) (ht : H lt = some (.list (nms told))) (hz : told.length ≤ 5000)
    (hx : ownN scope x = true) (hy : ownN scope y = true) (hdy : (y == ("__debug__" : Str)) = false) (hq : Q (cds told) H) : Walk0 g F scope (.Tuple [.Name x px, .Name y py] k pt) [] (emitTail (.Name y py2)) (.ref lt) m H Q X := by
  refine w0_gen (xs := told) nm (fun i => some (cd i)) (fun H' => H' = H) (tg := anyT) (by have := it_list (g := g) (l := lt) (xs := nms told); rwa [nms_len] at this) rfl (fun i h => nms_get h) (fun _ e => by rw [e]; exact ht) rfl (fun Fc acc hC i hi ys hl m' H' sees e J hJ => ?_) fun H' e => ?_
  · subst e
    refine a_tuple (hC.hh hh) rfl (a_name (hC.loc hx) (a_name (hC.loc hy) (tests_nil ?_)))
    rw [if_pos rfl]
    exact acc_emit (by rw [sizeLine_eq]; exact o180 hz hl) (e_name (setL_self ..) (hJ _ _ rfl ((sees.set hx).set hy)) hdy)
  · subst e
    have : told.filterMap (fun i => some (cd i)) = cds told := by unfold cds; rw [List.filterMap_eq_map']
    rw [this]; exact hq
end
section
variable {g : G} {F : Fm} {m : Loc} {H : AH} {X : Value → List V → Loc → AH → Prop} {Q : V → Loc → AH → Prop} {σ : Srt} {B : List (Addr × O)}
theorem refused_spec (D : Gd g) (hl : F.lvl < 60) (hh : F.A.handled = none) (s : Sat H (σ.lay ++ B)) (hk : σ.abs.names.Nodup) (hf : σ.abs.fits 700) {rd : Addr × List Int} (hrd : σ.rd = some rd) (hz : σ.rows.length ≤ 900) {lc ld : Addr} {ac : List Addr} {cs : List (List Int)} (hc : CallsAt H lc ac cs)
    (hsame : ∀ l as H', as.length = σ.rows.length + 1 → Ext H H' → Sat H' (tabLay l as (headRow σ :: σ.rows.map keptRow)) → SameD H' 4 (.ref l) (.ref ld)) (h : ∀ H', Ext H H' → Q (.bool true) m H') : WCode g F (.ref 170) [.ref σ.x, .ref lc, .ref ld] m H Q X := by
  have M := m_addB g.w.params
  rw [← D.K] at M
  refine d_code (D.lk rfl) (D.cd rfl) rfl rfl rfl rfl rfl rfl rfl (lv100 hl rfl) (binds_peek (fun vs => [("sorter", vs.getD 0 .none), ("calls", vs.getD 1 .none), ("due", vs.getD 2 .none)]) (fun vs S hv => ?_) (fun h vs r => ?_)) (bs := [("sorter", .ref σ.x), ("calls", .ref lc), ("due", .ref ld)]) rfl fun F' hF => ?_
  · obtain ⟨v, u, w, rfl⟩ := len3 hv; rw [D.K]; rfl
  · obtain ⟨v, r', rfl, rv, rr⟩ := r.uncons; obtain ⟨u, r', rfl, ru, rr⟩ := rr.uncons; obtain ⟨w, r', rfl, rw', rr⟩ := rr.uncons; exact ⟨v, _, rfl, rv, u, _, rfl, ru, w, [], rfl, rw', rfl⟩
  refine s_cons <| s_for (fun _ => rfl) <| e_name rfl <| for_anyT it_list rfl (fun i m' H' => Ext H H' ∧ m' "sorter" = some (.ref σ.x) ∧ m' "calls" = some (.ref lc) ∧ m' "due" = some (.ref ld)) (hF.hh hh) hF.st (fun i m' H' qq1 => qq1.elim fun e _ => e _ _ hc.top) ⟨.refl _, rfl, rfl, rfl⟩ (fun i m' H' hi qq2 => qq2.elim fun e qq3 => qq3.elim fun m1 qq4 => qq4.elim fun m2 m3 => ?_) (fun m' H' qq5 => qq5.elim fun e qq6 => qq6.elim fun m1 qq7 => qq7.elim fun m2 m3 => ?_)
  · rw [refs_len] at hi
    have hi' : i < cs.length := by rw [← hc.len]; exact hi
    rw [refs_get hi]
    have ea := e _ _ (hc.each i hi hi')
    have sz := hc.sz _ (List.getElem_mem hi')
    have ne := hc.ne _ (List.getElem_mem hi')
    generalize cs[i] = c at ea sz ne
    generalize ac[i] = a at ea
    match c, ne with
    | k :: ps, _ =>
    refine a_name (hF.loc rfl) <| s_cons <| s_assign (hF.loc rfl) rfl <| e_none <| s_mid (fun m4 H4 => Ext H H4 ∧ m4 "sorter" = some (.ref σ.x) ∧ m4 "calls" = some (.ref lc) ∧ m4 "due" = some (.ref ld) ∧ m4 "gave" = some (.tup [.bool true, .tup [.str "Nodes cannot be added after a call to prepare()"]])) ?_ fun m4 H4 qq1 => qq1.elim fun e4 qq2 => qq2.elim fun n1 qq3 => qq3.elim fun n2 qq4 => qq4.elim fun n3 n4 => ?_
    · refine s_try hF.st (s_cons (s_expr (e_methstar (e_name (by exact m1) ⟨_, 137, _, _, 87, rfl, e _ _ (Srt.inst s), e _ _ (Srt.ns s), M, rfl, e_comp (CompHead.of hF rfl rfl) (fun _ => rfl) (hF.hh hh) hF.st (fun Fc acc it => turn_one ..) <| e_name rfl <| w0_names (hF.hh hh) ea (by exact o203 sz) rfl rfl rfl fun b hb => ⟨cds (k :: ps), ⟨by rw [cds_length, sizeLine_eq]; exact o204 sz, .inr ⟨b, rfl, .own (put_self ..)⟩⟩, ?_⟩⟩))))
      have e5 := e.put (o := .list (cds (k :: ps))) hb
      refine add_spec (σ := σ) D (hF.lv hl rfl) (hF.hh hh) (by simp at sz; exact o205 sz) (e5.sat s) hk hf ?_
      rw [hrd]
      refine h_take_as ((hF.kindOf _).trans rfl) (spec_blt (hF.glo rfl) (D.nb rfl) D.ve) (ve_ve D) fun e a ha => ?_
      refine s_cons <| s_assign (hF.loc rfl) rfl <| e_tup <| l_cons <| e_cmp rfl <| e_call <| e_blt (hF.glo rfl) (D.nb rfl) D.ty (fn_ok <| cw_plain (.type _) <| l_cons <| e_name rfl <| l_nil <| c_type (.inr ⟨_, put_self ..⟩) rfl <| e_blt (hF.glo rfl) (D.nb rfl) D.ve <| o_isT (b := true) (by decide) <|
        l_cons <| e_attr <| e_name rfl <| x_args PySem.F.excAttr_ValueError (put_self ..) <| l_nil ⟨Nat.le_of_ble_eq_true rfl, s_nil ?_⟩)
      refine ⟨by rw [rem_put ha]; exact e5, by exact m1, by exact m2, by exact m3, rfl⟩
    · refine s_cons <| s_if <| t_cmp rfl <| e_name n4 <| e_tup <| l_cons <| e_bool <| l_cons <| e_tup <| l_cons <| e_str <| l_nil ⟨Nat.le_of_ble_eq_true rfl, l_nil ⟨Nat.le_of_ble_eq_true rfl, o_ne rfl rfl (Nat.le_of_ble_eq_true rfl) <| tr_bool ?_⟩⟩
      rw [veq_refl _ rfl, if_neg (by decide)]
      exact s_nil (s_nil ⟨e4, n1, n2, n3⟩)
  · refine s_nil <| s_cons <| s_ret <| e_call <| e_glob (hF.glo rfl) (D.nb rfl) (fun _ => .cst' _) (fn_ok <| cw_plain (D.kp rfl) <| l_cons <| e_call <| e_glob (hF.glo rfl) (D.nb rfl) (fun _ => .cst' _) (fn_ok <| cw_plain (D.kp rfl) <| l_cons <| e_name (by exact m1) <| l_nil <| WCode.call <| law_kept_spec D (hF.lv hl rfl) (hF.hh hh) (e.sat s) hz fun l as H2 la e2 s2 =>
      l_cons <| e_name (by exact m3) <| l_nil <| WCode.call <| law_same D 4 ζ _ _ _ _ _ _ _ (by have := hF.lv (b := 61) hl rfl; exact o206 this) (hF.hh hh) (hsame l as H2 la (e.trans e2) s2) fun H3 e3 => h _ ((e.trans e2).trans e3)))
end
end Mine
end
section
open PySem PySem.W PySem.Calls PyProof.Rows PySem.SeqAt
set_option linter.unusedSectionVars false
set_option linter.unusedVariables false
set_option maxRecDepth 100000
namespace Mine
noncomputable def snoc1 (ks : List Int) (x : Int) : List Int := if cl x ∈ ks.map cl then ks else ks ++ [x]
noncomputable def firsts (xs : List Int) : List Int := xs.foldl snoc1 []
structure PIs (p : PS) (ks : List Int) (N : Int → Int) (S : Int → List Int) : Prop where
  rows : p.rows = ks.map fun k => ⟨k, N (cl k), S (cl k)⟩
  out : ∀ t, t ∉ ks.map cl → N t = 0 ∧ S t = []
theorem PIs.names {p : PS} {ks : List Int} {N : Int → Int} {S : Int → List Int} (h : PIs p ks N S) : p.names = ks.map cl := by
  unfold PS.names; rw [h.rows, List.map_map]; rfl
theorem PIs.ens {p : PS} {ks : List Int} {N : Int → Int} {S : Int → List Int} (h : PIs p ks N S) (k : Int) : PIs (p.ens k) (snoc1 ks k) N S := by
  unfold PS.ens snoc1
  rw [h.names]
  split
  · exact h
  · rename_i z
    obtain ⟨z1, z2⟩ := h.out _ z
    refine ⟨?_, fun t ht => h.out t fun q => ht (by rw [List.map_append]; exact List.mem_append_left _ q)⟩
    show p.rows ++ [⟨k, 0, []⟩] = _
    rw [h.rows, List.map_append, List.map_cons, List.map_nil, z1, z2]
theorem mem_snoc1 (ks : List Int) (k : Int) : cl k ∈ (snoc1 ks k).map cl := by
  unfold snoc1; split
  · assumption
  · simp
theorem mem_snoc {ks : List Int} {t : Int} (k : Int) (h : t ∈ ks.map cl) : t ∈ (snoc1 ks k).map cl := by
  unfold snoc1; split
  · exact h
  · rw [List.map_append]; exact List.mem_append_left _ h
theorem snoc_mem {ks : List Int} {t : Int} {k : Int} (h : t ∈ (snoc1 ks k).map cl) : t ∈ ks.map cl ∨ t = cl k := by
  unfold snoc1 at h; split at h
  · exact .inl h
  · rw [List.map_append] at h
    rcases List.mem_append.mp h with h | h
    · exact .inl h
    · exact .inr (by simpa using h)
theorem PIs.upN {p : PS} {ks : List Int} {N : Int → Int} {S : Int → List Int} (h : PIs p ks N S) {k : Int} (n : Int) (hk : cl k ∈ ks.map cl) : PIs (p.upd k fun r => { r with np := r.np + n }) ks (fun t => if t = cl k then N t + n else N t) S := by
  refine ⟨?_, fun t ht => ⟨?_, (h.out t ht).2⟩⟩
  · show p.rows.map _ = _
    rw [h.rows, List.map_map]
    refine List.map_congr_left fun k' _ => ?_
    show (if cl k' = cl k then _ else _) = _
    by_cases z : cl k' = cl k
    · rw [if_pos z]; simp only [if_pos z]
    · rw [if_neg z]; simp only [if_neg z]
  · rw [if_neg fun q => ht (by rw [q]; exact hk)]; exact (h.out t ht).1
theorem PIs.upS {p : PS} {ks : List Int} {N : Int → Int} {S : Int → List Int} (h : PIs p ks N S) {k : Int} (n : Int) (hk : cl k ∈ ks.map cl) : PIs (p.upd k fun r => { r with su := r.su ++ [n] }) ks N (fun t => S t ++ (if cl k = t then [n] else [])) := by
  refine ⟨?_, fun t ht => ⟨(h.out t ht).1, ?_⟩⟩
  · show p.rows.map _ = _
    rw [h.rows, List.map_map]
    refine List.map_congr_left fun k' _ => ?_
    show (if cl k' = cl k then _ else _) = _
    by_cases z : cl k' = cl k
    · rw [if_pos z]; simp only [if_pos z.symm]
    · rw [if_neg z]; simp only [if_neg (Ne.symm z)]; rw [List.append_nil]
  · rw [if_neg fun q => ht (by rw [← q]; exact hk), List.append_nil]; exact (h.out t ht).2
theorem PIs.tells (k : Int) : ∀ (ps : List Int) {p : PS} {ks : List Int} {N : Int → Int} {S : Int → List Int}, PIs p ks N S →
    PIs (ps.foldl (fun p q => p.tell k q) p) (ps.foldl snoc1 ks) N (fun t => S t ++ (ps.filter fun o => decide (cl o = t)).map fun _ => k)
  | [], p, ks, N, S, h => by simpa using h
  | q :: ps, p, ks, N, S, h => by
    have := PIs.tells k ps ((h.ens q).upS (k := q) k (mem_snoc1 ks q))
    rw [List.foldl_cons, List.foldl_cons]
    have e : (fun t => S t ++ ((q :: ps).filter fun o => decide (cl o = t)).map fun _ => k) = fun t => (S t ++ if cl q = t then [k] else []) ++ (ps.filter fun o => decide (cl o = t)).map fun _ => k := by
      funext t
      by_cases z : cl q = t <;> simp [z]
    rw [e]
    exact this
theorem PIs.add {p : PS} {ks : List Int} {N : Int → Int} {S : Int → List Int} (h : PIs p ks N S) {c : List Int} (hc : c ≠ []) :
    PIs (p.add (headOf c) c.tail) (c.foldl snoc1 ks) (fun t => N t + (if cl (headOf c) = t then (c.length : Int) - 1 else 0)) (fun t => S t ++ nodes1 c c.tail t) := by
  obtain ⟨k, ps, rfl⟩ := List.exists_cons_of_ne_nil hc
  have := PIs.tells k ps ((h.ens k).upN (k := k) (ps.length : Int) (mem_snoc1 ks k))
  have e : (fun t => N t + (if cl (headOf (k :: ps)) = t then ((k :: ps).length : Int) - 1 else 0)) = fun t => if t = cl k then N t + (ps.length : Int) else N t := by
    funext t
    show N t + (if cl k = t then _ else _) = _
    by_cases z : t = cl k
    · rw [if_pos z, if_pos z.symm]; simp
    · rw [if_neg z, if_neg (Ne.symm z)]; simp
  rw [e]
  exact this
noncomputable def tellAll (p : PS) (cs : List (List Int)) : PS := cs.foldl (fun p c => p.add (headOf c) c.tail) p
theorem PIs.all : ∀ (cs : List (List Int)) {p : PS} {ks : List Int} {N : Int → Int} {S : Int → List Int}, PIs p ks N S → (∀ c ∈ cs, c ≠ []) →
    PIs (tellAll p cs) (cs.flatten.foldl snoc1 ks) (fun t => N t + (cntOf cs t).sum) (fun t => S t ++ nodesOf cs t)
  | [], p, ks, N, S, h, _ => by unfold tellAll cntOf nodesOf; simpa using h
  | c :: cs, p, ks, N, S, h, hc => by
    have := PIs.all cs (h.add (hc c List.mem_cons_self)) fun c' h' => hc c' (List.mem_cons_of_mem _ h')
    rw [List.flatten_cons, List.foldl_append]
    have e1 : (fun t => N t + (cntOf (c :: cs) t).sum) = fun t => (N t + if cl (headOf c) = t then (c.length : Int) - 1 else 0) + (cntOf cs t).sum := by
      funext t
      unfold cntOf
      rw [List.filterMap_cons]
      by_cases z : cl (headOf c) = t
      · simp only [if_pos z, List.sum_cons]; exact o207
      · simp only [if_neg z]; omega
    have e2 : (fun t => S t ++ nodesOf (c :: cs) t) = fun t => (S t ++ nodes1 c c.tail t) ++ nodesOf cs t := by
      funext t
      unfold nodesOf nodes1
      rw [List.flatMap_cons, List.append_assoc]
    rw [e1, e2]
    exact this
noncomputable def ps0 : PS := ⟨[], none, 0, 0⟩
theorem book_rows {cs : List (List Int)} (hc : ∀ c ∈ cs, c ≠ []) : (tellAll ps0 cs).rows = (firsts cs.flatten).map fun k => ⟨k, cntS cs k, nodesOf cs (cl k)⟩ := by
  have := (PIs.all cs (p := ps0) (ks := []) (N := fun _ => 0) (S := fun _ => []) ⟨rfl, fun _ _ => ⟨rfl, rfl⟩⟩ hc).rows
  unfold cntS firsts; simpa using this
theorem add_more (p : PS) (k : Int) (qs : List Int) : (p.add k qs).rd = p.rd ∧ (p.add k qs).po = p.po ∧ (p.add k qs).nf = p.nf := by
  have tell : ∀ (p : PS) (q : Int), (p.tell k q).rd = p.rd ∧ (p.tell k q).po = p.po ∧ (p.tell k q).nf = p.nf := fun p q => by
    unfold PS.tell PS.upd PS.ens; split <;> exact ⟨rfl, rfl, rfl⟩
  have main : ∀ (qs : List Int) (p : PS), (qs.foldl (fun p q => p.tell k q) p).rd = p.rd ∧ (qs.foldl (fun p q => p.tell k q) p).po = p.po ∧ (qs.foldl (fun p q => p.tell k q) p).nf = p.nf := by
    intro qs
    induction qs with
    | nil => intro p; exact ⟨rfl, rfl, rfl⟩
    | cons q qs ih =>
      intro p
      obtain ⟨a1, a2, a3⟩ := ih (p.tell k q)
      obtain ⟨b1, b2, b3⟩ := tell p q
      exact ⟨a1.trans b1, a2.trans b2, a3.trans b3⟩
  obtain ⟨a1, a2, a3⟩ := main qs ((p.ens k).upd k fun r => { r with np := r.np + qs.length })
  unfold PS.add
  refine ⟨a1.trans ?_, a2.trans ?_, a3.trans ?_⟩ <;> (unfold PS.upd PS.ens; split <;> rfl)
theorem all_more : ∀ (cs : List (List Int)) (p : PS), (tellAll p cs).rd = p.rd ∧ (tellAll p cs).po = p.po ∧ (tellAll p cs).nf = p.nf
  | [], p => ⟨rfl, rfl, rfl⟩
  | c :: cs, p => by
    obtain ⟨a1, a2, a3⟩ := all_more cs (p.add (headOf c) c.tail)
    obtain ⟨b1, b2, b3⟩ := add_more p (headOf c) c.tail
    exact ⟨a1.trans b1, a2.trans b2, a3.trans b3⟩
end Mine
end
section
open PySem PySem.W PySem.Calls PyProof.Rows PySem.SeqAt
set_option linter.unusedSectionVars false
set_option linter.unusedVariables false
set_option maxRecDepth 100000
namespace Mine
noncomputable def pos (xs : List Int) (n : Nat) : List Nat := (List.range n).filter fun i => decide (cl (xs.getD i 0) ∉ (xs.take i).map cl)
theorem mem_firsts (xs : List Int) : ∀ (ks : List Int) (t : Int), t ∈ (xs.foldl snoc1 ks).map cl ↔ t ∈ ks.map cl ∨ t ∈ xs.map cl := by
  induction xs with
  | nil => intro ks t; simp
  | cons x xs ih =>
    intro ks t
    rw [List.foldl_cons, ih, List.map_cons, List.mem_cons]
    constructor
    · rintro (h | h)
      · rcases snoc_mem h with h | h
        · exact .inl h
        · exact .inr (.inl h)
      · exact .inr (.inr h)
    · rintro (h | h | h)
      · exact .inl (mem_snoc x h)
      · subst h; exact .inl (mem_snoc1 ks x)
      · exact .inr h
theorem firsts_mem (xs : List Int) (t : Int) : t ∈ (firsts xs).map cl ↔ t ∈ xs.map cl := by
  unfold firsts; rw [mem_firsts]; simp
theorem firsts_pos (xs : List Int) : ∀ n, n ≤ xs.length → firsts (xs.take n) = (pos xs n).map fun i => xs.getD i 0
  | 0, _ => rfl
  | n + 1, h => by
    have ih := firsts_pos xs n (Nat.le_of_succ_le h)
    have e : xs.take (n + 1) = xs.take n ++ [xs.getD n 0] := by
      rw [List.take_add_one, List.getElem?_eq_getElem h, List.getD_eq_getElem?_getD, List.getElem?_eq_getElem h]; rfl
    have e2 : firsts (xs.take (n + 1)) = snoc1 (firsts (xs.take n)) (xs.getD n 0) := by
      unfold firsts; rw [e, List.foldl_append]; rfl
    rw [e2]
    unfold pos snoc1
    rw [List.range_succ, List.filter_append, List.map_append]
    rw [show (if cl (xs.getD n 0) ∈ (firsts (xs.take n)).map cl then firsts (xs.take n) else firsts (xs.take n) ++ [xs.getD n 0]) = firsts (xs.take n) ++ (if cl (xs.getD n 0) ∈ (firsts (xs.take n)).map cl then [] else [xs.getD n 0]) by split <;> simp]
    rw [ih]
    refine congrArg ((pos xs n).map (fun i => xs.getD i 0) ++ ·) ?_
    rw [← ih]
    by_cases z : cl (xs.getD n 0) ∈ (xs.take n).map cl
    · rw [if_pos ((firsts_mem _ _).mpr z), List.filter_cons, if_neg (by simpa using z)]; rfl
    · rw [if_neg fun q => z ((firsts_mem _ _).mp q), List.filter_cons, if_pos (by simpa using z)]; rfl
theorem not_mem_take_idxOf (k : Int) : ∀ l : List Int, k ∉ l.take (l.idxOf k)
  | [] => by simp
  | a :: l => by
    rw [List.idxOf_cons]
    by_cases z : a = k
    · simp [z]
    · rw [show (a == k) = false from by simpa using z]
      intro h
      have h : k ∈ (a :: l).take (l.idxOf k + 1) := h
      rw [List.take_succ_cons] at h
      rcases List.mem_cons.mp h with q | q
      · exact z q.symm
      · exact not_mem_take_idxOf k l q
theorem idxOf_of (k : Int) : ∀ (l : List Int) (p : Nat), l[p]? = some k → k ∉ l.take p → l.idxOf k = p
  | [], p, h, _ => by simp at h
  | a :: l, 0, h, _ => by
    have : a = k := by simpa using h
    rw [List.idxOf_cons]; simp [this]
  | a :: l, p + 1, h, q => by
    have z : a ≠ k := fun e => q (by simp [e])
    have := idxOf_of k l p (by simpa using h) (fun e => q (by simp [e]))
    rw [List.idxOf_cons, show (a == k) = false from by simpa using z, this]; rfl
theorem mem_pos {xs : List Int} {i : Nat} : i ∈ pos xs xs.length ↔ i < xs.length ∧ cl (xs.getD i 0) ∉ (xs.take i).map cl := by
  unfold pos; rw [List.mem_filter, List.mem_range]; simp
theorem mem_idxs {ks : List Int} {p : Int} : p ∈ idxs ks ↔ ∃ k : Nat, k < 7 ∧ (k : Int) ∈ ks ∧ p = (ks.idxOf (k : Int) : Nat) := by
  unfold idxs
  rw [List.mem_filterMap]
  constructor
  · rintro ⟨k, hk, h⟩
    split at h
    · rename_i hc
      cases h
      exact ⟨k, by simpa using hk, by simpa using hc, rfl⟩
    · cases h
  · rintro ⟨k, hk, hm, rfl⟩
    exact ⟨k, by simpa using hk, by rw [if_pos (by simpa using hm)]⟩
theorem same_mem (xs : List Int) (p : Int) : p ∈ idxs (xs.map cl) ↔ p ∈ (pos xs xs.length).map (fun i : Nat => (i : Int)) := by
  rw [mem_idxs, List.mem_map]
  constructor
  · rintro ⟨k, hk, hm, rfl⟩
    have lt := List.idxOf_lt_length_of_mem hm
    have lt' : (xs.map cl).idxOf (k : Int) < xs.length := by simpa using lt
    refine ⟨(xs.map cl).idxOf (k : Int), mem_pos.mpr ⟨lt', ?_⟩, rfl⟩
    have e := List.getElem_idxOf lt
    rw [List.getElem_map] at e
    rw [List.getD_eq_getElem?_getD, List.getElem?_eq_getElem lt', List.map_take]
    show cl (xs[(xs.map cl).idxOf (k : Int)]) ∉ _
    rw [e]
    exact not_mem_take_idxOf _ _
  · rintro ⟨i, hi, rfl⟩
    obtain ⟨lt, hn⟩ := mem_pos.mp hi
    rw [List.getD_eq_getElem?_getD, List.getElem?_eq_getElem lt] at hn
    obtain ⟨c0, c7⟩ := cl_in xs[i]
    have ec : ((cl xs[i]).toNat : Int) = cl xs[i] := by exact o208 c0
    refine ⟨(cl xs[i]).toNat, by exact o209 c7, by rw [ec]; exact List.mem_map_of_mem (List.getElem_mem lt), ?_⟩
    rw [ec, idxOf_of (cl xs[i]) (xs.map cl) i (by rw [List.getElem?_map, List.getElem?_eq_getElem lt]; rfl) (by rw [← List.map_take]; exact hn)]
theorem idxs_nodup (ks : List Int) : (idxs ks).Nodup := by
  unfold idxs
  refine List.Pairwise.filterMap (R := fun a b : Nat => a ≠ b) (S := fun a b => a ≠ b) _ (fun a a' n b hb b' hb' q => n ?_) List.nodup_range
  split at hb
  · rename_i h1
    split at hb'
    · rename_i h2
      cases hb; cases hb'
      have l1 := List.idxOf_lt_length_of_mem (a := (a : Int)) (l := ks) (by simpa using h1)
      have l2 := List.idxOf_lt_length_of_mem (a := (a' : Int)) (l := ks) (by simpa using h2)
      have e1 := List.getElem_idxOf l1
      have e2 := List.getElem_idxOf l2
      have e : ks.idxOf (a : Int) = ks.idxOf (a' : Int) := by exact o210 q
      simp only [e] at e1
      have := e1.symm.trans e2
      omega
    · cases hb'
  · cases hb
theorem sorted_ext : ∀ {l1 l2 : List Int}, l1.Pairwise (· < ·) → l2.Pairwise (· < ·) → (∀ x, x ∈ l1 ↔ x ∈ l2) → l1 = l2
  | [], [], _, _, _ => rfl
  | [], b :: l2, _, _, h => by have := (h b).mpr List.mem_cons_self; cases this
  | a :: l1, [], _, _, h => by have := (h a).mp List.mem_cons_self; cases this
  | a :: l1, b :: l2, h1, h2, h => by
    rw [List.pairwise_cons] at h1 h2
    have e : a = b := by
      rcases List.mem_cons.mp ((h a).mp List.mem_cons_self) with q | q
      · exact q
      · rcases List.mem_cons.mp ((h b).mpr List.mem_cons_self) with r | r
        · exact r.symm
        · have := h1.1 b r
          have := h2.1 a q
          omega
    subst e
    refine congrArg (a :: ·) (sorted_ext h1.2 h2.2 fun x => ⟨fun hx => ?_, fun hx => ?_⟩)
    · rcases List.mem_cons.mp ((h x).mp (List.mem_cons_of_mem _ hx)) with q | q
      · have := h1.1 x hx; omega
      · exact q
    · rcases List.mem_cons.mp ((h x).mpr (List.mem_cons_of_mem _ hx)) with q | q
      · have := h2.1 x hx; omega
      · exact q
theorem pos_sorted (xs : List Int) (n : Nat) : ((pos xs n).map (fun i : Nat => (i : Int))).Pairwise (· < ·) := by
  unfold pos
  rw [List.pairwise_map]
  refine List.Pairwise.imp (R := fun a b : Nat => a < b) (fun h => by exact o212 h) (List.Pairwise.filter _ List.pairwise_lt_range)
theorem keys_are {xs ms : List Int} (hp : ms.Perm (idxs (xs.map cl))) (hs : ms.Pairwise (· ≤ ·)) : ms.map (keyAt xs) = firsts xs := by
  have nd : ms.Nodup := hp.nodup_iff.mpr (idxs_nodup _)
  have st : ms.Pairwise (· < ·) := (hs.and nd).imp fun qq1 => qq1.elim fun a b => by exact o360 qq1
  have e : ms = (pos xs xs.length).map fun i : Nat => (i : Int) := sorted_ext st (pos_sorted xs _) fun x => (hp.mem_iff).trans (same_mem xs x)
  have f := firsts_pos xs xs.length (Nat.le_refl _)
  rw [List.take_of_length_le (Nat.le_refl _)] at f
  rw [f, e, List.map_map]
  refine List.map_congr_left fun i _ => ?_
  show xs.getD (i : Int).toNat 0 = xs.getD i 0
  rfl
end Mine
end
section
open PySem PySem.W PySem.Calls PyProof.Rows PySem.SeqAt
set_option linter.unusedSectionVars false
set_option linter.unusedVariables false
set_option maxRecDepth 100000
namespace Mine
variable [ζ : Dead]
theorem Srt.rd_of {σ : Srt} {ns : List Int} (h : σ.abs.rd = some ns) : ∃ a, σ.rd = some (a, ns) := by
  unfold Srt.abs at h
  cases q : σ.rd with
  | none => rw [q] at h; cases h
  | some p => obtain ⟨a, xs⟩ := p; rw [q] at h; cases h; exact ⟨a, rfl⟩
theorem SameD.of {H : AH} {x y : V} (d : Nat) (h : Leaf x y) : SameD H d x y := by
  cases d with
  | zero => exact h
  | succ d => exact .inl h
theorem leaf_int (n : Int) : Leaf (.int n) (.int n) := ⟨"int", rfl, rfl, by rw [veq_int]; exact beq_self_eq_true _⟩
theorem leaf_none : Leaf .none .none := ⟨"NoneType", rfl, rfl, by unfold veq ck eqk; rfl⟩
theorem leaf_refl {x : V} {T : String} (h : leafT x = some T) : Leaf x x := by
  obtain ⟨_, hd, _⟩ := leaf_ty (H := fun _ => none) h
  exact ⟨T, h, h, veq_refl x hd⟩
theorem same_pair {H : AH} {d : Nat} {x y : V} (hx : SameD H d x x) (hy : SameD H d y y) : SameD H (d + 1) (.tup [x, y]) (.tup [x, y]) :=
  .inr ⟨"tuple", [x, y], [x, y], .inr ⟨rfl, rfl⟩, .inr ⟨rfl, rfl⟩, rfl, (Nat.le_of_ble_eq_true rfl), fun i hi => below2 (P := fun i => SameD H d ([x, y].getD i .none) ([x, y].getD i .none)) hx hy i hi⟩
theorem same_lf {H : AH} {d : Nat} {x : V} {T : String} (h : leafT x = some T) : SameD H (d + 1) x x := .inl (leaf_refl h)
theorem same_name (H : AH) (d : Nat) (k : Int) : SameD H (d + 1) (cd k) (cd k) :=
  nameAt_cases (P := fun p => SameD H (d + 1) p.1 p.1) (below10 (P := fun n => SameD H (d + 1) (nameAt n).1 (nameAt n).1) (same_lf (T := "int") rfl) (same_lf (T := "int") rfl) (same_lf (T := "bool") rfl) (same_lf (T := "bool") rfl)
    (same_pair (.of _ (leaf_refl (T := "int") rfl)) (.of _ (leaf_refl (T := "str") rfl))) (same_pair (.of _ (leaf_refl (T := "bool") rfl)) (.of _ (leaf_refl (T := "str") rfl))) (same_lf (T := "str") rfl) (same_lf (T := "NoneType") rfl) (same_lf (T := "int") rfl) (same_lf (T := "int") rfl)) k.toNat
theorem same_list {H : AH} {d : Nat} {l l' : Addr} {xs ys : List V} (e : H l = some (.list xs)) (e' : H l' = some (.list ys)) (hl : xs.length = ys.length) (hz : xs.length ≤ 1000) (h : ∀ i, i < xs.length → SameD H d (xs.getD i .none) (ys.getD i .none)) : SameD H (d + 1) (.ref l) (.ref l') :=
  .inr ⟨"list", xs, ys, .inl ⟨rfl, l, rfl, e⟩, .inl ⟨rfl, l', rfl, e'⟩, hl, hz, h⟩
theorem same_names {H : AH} {d : Nat} {l l' : Addr} {ns : List Int} (e : H l = some (.list (cds ns))) (e' : H l' = some (.list (cds ns))) (hz : ns.length ≤ 1000) : SameD H (d + 2) (.ref l) (.ref l') :=
  same_list e e' rfl (by rw [cds_length]; exact hz) fun i hi => by
    rw [cds_length] at hi
    rw [cds_get hi]; exact same_name H d _
theorem tab_at {H : AH} {l : Addr} {as : List Addr} {rows : List (List V)} (s : Sat H (tabLay l as rows)) {i : Nat} (h : i < as.length) (h' : i < rows.length) : H as[i] = some (.list rows[i]) := by
  refine s.get (.tail _ ?_)
  have lt : i < (as.zipWith (fun a r => (a, O.list r)) rows).length := by simp; exact o213 h' h
  have := List.getElem_mem lt
  rw [List.getElem_zipWith] at this
  exact this
structure Stg3 (p : PS) (stage : Nat) (cs : List (List Int)) : Prop where
  rows : p.rows = (firsts cs.flatten).map fun k => ⟨k, cntV stage cs k, nodesOf cs (cl k)⟩
  rd : p.rd = if stage = 0 then none else some (if stage = 1 then rdyOf cs (firsts cs.flatten) else [])
  po : p.po = if stage = 2 then ((rdyOf cs (firsts cs.flatten)).length : Int) else 0
  nf : p.nf = 0
theorem same_three {H : AH} {d : Nat} {l l' : Addr} {x x' : V} {a b : Int} (e : H l = some (.list [x, .int a, .int b])) (e' : H l' = some (.list [x', .int a, .int b])) (h : SameD H d x x') : SameD H (d + 1) (.ref l) (.ref l') :=
  same_list e e' rfl (Nat.le_of_ble_eq_true rfl) fun i hi => below3 (P := fun i => SameD H d ([x, .int a, .int b].getD i .none) ([x', .int a, .int b].getD i .none)) h (.of _ (leaf_int a)) (.of _ (leaf_int b)) i hi
theorem same_tab {H : AH} {σ : Srt} {B : List (Addr × O)} {stage : Nat} {cs : List (List Int)} {l l' hd : Addr} {as as' : List Addr} (hst : stage ≤ 2) (hcs : ∀ t, (nodesOf cs t).length ≤ 1000) (h7 : (firsts cs.flatten).length ≤ 7) (P : Stg3 σ.abs stage cs)
    (hl : as.length = σ.rows.length + 1) (s0 : Sat H (σ.lay ++ B)) (s : Sat H (tabLay l as (headRow σ :: σ.rows.map keptRow))) (due : DueAt H stage cs (firsts cs.flatten) l' hd as') : SameD H 4 (.ref l) (.ref l') := by
  have er := P.rows
  have el : σ.rows.length = (firsts cs.flatten).length := by
    have := congrArg List.length er
    unfold Srt.abs at this
    simpa using this
  refine same_list (s.get (.head _)) due.top (by rw [refs_len, refs_len, hl, List.length_cons, due.len, el]) (by rw [refs_len]; exact o214 el hl h7) fun i hi => ?_
  rw [refs_len] at hi
  have hi' : i < (hd :: as').length := by rw [List.length_cons, due.len]; exact o215 el hl hi
  rw [refs_get hi, refs_get hi']
  cases i with
  | zero =>
    have e := tab_at s hi (Nat.le_of_ble_eq_true rfl)
    have e : H as[0] = some (.list [rdV σ.rd, .int σ.po, .int σ.nf]) := e
    have hpo : σ.po = _ := P.po
    have hnf : σ.nf = 0 := P.nf
    have hrd := P.rd
    rw [hpo, hnf] at e
    show SameD H 3 _ (.ref hd)
    rcases due.head with ⟨q, f⟩ | ⟨q, r, f1, f2⟩ | ⟨q, r, f1, f2⟩
    · subst q
      rw [Srt.rd_none (hrd.trans (if_pos rfl))] at e
      exact same_three e f (.of _ leaf_none)
    · subst q
      obtain ⟨a, hra⟩ := Srt.rd_of (σ := σ) (ns := rdyOf cs (firsts cs.flatten)) hrd
      have ha := Srt.ready s0 hra
      rw [hra] at e
      refine same_three e f1 (same_names ha f2 ?_)
      have h1 : (rdyOf cs (firsts cs.flatten)).length ≤ (firsts cs.flatten).length := List.length_filter_le ..
      exact o435 h7 h1
    · subst q
      obtain ⟨a, hra⟩ := Srt.rd_of (σ := σ) (ns := []) hrd
      have ha := Srt.ready s0 hra
      rw [hra] at e
      exact same_three e f1 (same_names (ns := []) ha f2 (Nat.le_of_ble_eq_true rfl))
  | succ i =>
    have ir : i < σ.rows.length := by exact o217 hl hi
    have ik : i < (firsts cs.flatten).length := by exact o218 el hl hi
    have ia : i < as'.length := by rw [due.len]; exact ik
    have e := tab_at s hi (by simp; exact o217 hl hi)
    have er' : σ.rows[i].abs = ⟨(firsts cs.flatten)[i], cntV stage cs (firsts cs.flatten)[i], nodesOf cs (cl (firsts cs.flatten)[i])⟩ := by
      have h1 : (σ.rows.map Row.abs)[i]? = ((firsts cs.flatten).map fun k => (⟨k, cntV stage cs k, nodesOf cs (cl k)⟩ : PRow))[i]? := congrArg (fun z : List PRow => z[i]?) er
      rw [List.getElem?_map, List.getElem?_map, List.getElem?_eq_getElem ir, List.getElem?_eq_getElem ik] at h1
      exact Option.some.inj h1
    obtain ⟨na, f1, f2⟩ := due.rows (as'[i], (firsts cs.flatten)[i]) (by
      have lt : i < (as'.zip (firsts cs.flatten)).length := by simp; exact o219 el hl hi ia
      have := List.getElem_mem lt
      rwa [List.getElem_zip] at this)
    have e : H as[i + 1] = some (.list (keptRow σ.rows[i])) := by simpa using e
    have hla := Srt.succs s0 (List.getElem_mem ir)
    generalize σ.rows[i] = r at e er' hla
    generalize (firsts cs.flatten)[i] = k at er' f1 f2
    have k1 : r.k = k := congrArg PRow.k er'
    have k2 : r.np = cntV stage cs k := congrArg PRow.np er'
    have k3 : r.su = nodesOf cs (cl k) := congrArg PRow.su er'
    unfold keptRow at e
    rw [k1, k2] at e
    rw [k3] at hla
    show SameD H 3 _ (.ref as'[i])
    exact same_list e f1 rfl (Nat.le_of_ble_eq_true rfl) (below4 (same_name H 1 k) (same_name H 1 k) (.of _ (leaf_int _)) (same_names hla f2 (hcs _)))
end Mine
end
section
open PySem PySem.W PySem.Calls PyProof.Rows PySem.SeqAt
set_option linter.unusedSectionVars false
set_option linter.unusedVariables false
set_option maxRecDepth 100000
namespace Mine
variable [ζ : Dead]
theorem snoc1_nodup {ks : List Int} (h : (ks.map cl).Nodup) (x : Int) : ((snoc1 ks x).map cl).Nodup := by
  unfold snoc1; split
  · exact h
  · rename_i z
    rw [List.map_append, List.nodup_append]
    exact ⟨h, by simp, fun a ha b hb => by simp at hb; subst hb; intro e; subst e; exact z ha⟩
theorem firsts_nodup (xs : List Int) : ((firsts xs).map cl).Nodup := by
  unfold firsts
  have : ∀ (xs ks : List Int), (ks.map cl).Nodup → ((xs.foldl snoc1 ks).map cl).Nodup := by
    intro xs
    induction xs with
    | nil => intro ks h; exact h
    | cons x xs ih => intro ks h; rw [List.foldl_cons]; exact ih _ (snoc1_nodup h x)
  exact this xs [] List.nodup_nil
theorem firsts_7 (xs : List Int) : (firsts xs).length ≤ 7 := by
  have := List.Nodup.length_le_of_subset (l₂ := ([0, 1, 2, 3, 4, 5, 6] : List Int)) (firsts_nodup xs) fun t ht => by
    obtain ⟨k, _, rfl⟩ := List.mem_map.mp ht
    have := cl_in k
    simp; exact o115 this
  simpa using this
theorem stg0 {cs : List (List Int)} (hc : ∀ c ∈ cs, c ≠ []) : Stg3 (tellAll ps0 cs) 0 cs := by
  obtain ⟨a1, a2, a3⟩ := all_more cs ps0
  refine ⟨?_, a1, a2, a3⟩
  rw [book_rows hc]
  refine List.map_congr_left fun k _ => ?_
  unfold cntV
  split
  · rename_i z; simp [z]
  · rfl
theorem ready_of {rows : List Row} {ks : List Int} {cs : List (List Int)} (h : rows.map Row.abs = ks.map fun k => ⟨k, cntV 0 cs k, nodesOf cs (cl k)⟩) : readyOf rows = rdyOf cs ks := by
  induction rows generalizing ks with
  | nil =>
    cases ks with
    | nil => rfl
    | cons k ks => cases h
  | cons r rows ih =>
    cases ks with
    | nil => cases h
    | cons k ks =>
      rw [List.map_cons, List.map_cons] at h
      injection h with h1 h2
      have k1 : r.k = k := congrArg PRow.k h1
      have k2 : r.np = cntV 0 cs k := congrArg PRow.np h1
      have := ih h2
      unfold readyOf rdyOf at this ⊢
      rw [List.filter_cons, List.filter_cons, k2]
      by_cases z : cntS cs k = 0
      · have e : cntV 0 cs k = 0 := by unfold cntV; rw [if_pos z]; rfl
        rw [e, if_pos (show ((0 : Int) == 0) = true from rfl), if_pos (by simpa using z), List.map_cons, this, k1]
      · have e : cntV 0 cs k = cntS cs k := by unfold cntV; rw [if_neg z]
        rw [e, if_neg (by simpa using z), if_neg (by simpa using z), this]
theorem stg1 {σ : Srt} {p : PS} {cs : List (List Int)} (h : Stg3 σ.abs 0 cs) (e : p = { σ.abs with rd := some (readyOf σ.rows) }) : Stg3 p 1 cs := by
  subst e
  refine ⟨h.rows, ?_, h.po, h.nf⟩
  show some _ = some _
  rw [ready_of h.rows]; rfl
theorem out_rows : ∀ (ns : List Int) (p : PS), (p.out ns).rows = p.rows.map fun r => if cl r.k ∈ ns.map cl then { r with np := -1 } else r
  | [], p => by
    show p.rows = _
    simp
  | n :: ns, p => by
    have := out_rows ns (p.setNp n (-1))
    show ((p.setNp n (-1)).out ns).rows = _
    rw [this]
    show (p.rows.map _).map _ = _
    rw [List.map_map]
    refine List.map_congr_left fun r _ => ?_
    show (if cl (if cl r.k = cl n then { r with np := -1 } else r).k ∈ ns.map cl then { (if cl r.k = cl n then { r with np := -1 } else r) with np := -1 } else (if cl r.k = cl n then { r with np := -1 } else r)) = _
    by_cases z : cl r.k = cl n
    · simp [z]
    · rw [if_neg z]
      by_cases w : cl r.k ∈ ns.map cl
      · rw [if_pos w, if_pos (by rw [List.map_cons]; exact List.mem_cons_of_mem _ w)]
      · rw [if_neg w, if_neg (by rw [List.map_cons]; intro q; rcases List.mem_cons.mp q with q | q; exact z q; exact w q)]
theorem cntS_cl {cs : List (List Int)} {k k' : Int} (h : cl k = cl k') : cntS cs k = cntS cs k' := by unfold cntS; rw [h]
theorem stg2 {q p : PS} {cs : List (List Int)} (h : Stg3 q 1 cs) (e : p = { q.out (rdyOf cs (firsts cs.flatten)) with rd := some [], po := q.po + (rdyOf cs (firsts cs.flatten)).length }) : Stg3 p 2 cs := by
  subst e
  obtain ⟨o1, o2, o3⟩ := PS.out_more (rdyOf cs (firsts cs.flatten)) q
  refine ⟨?_, rfl, ?_, o3.trans h.nf⟩
  · show (q.out _).rows = _
    rw [out_rows, h.rows, List.map_map]
    refine List.map_congr_left fun k hk => ?_
    show (if cl k ∈ (rdyOf cs (firsts cs.flatten)).map cl then (⟨k, -1, nodesOf cs (cl k)⟩ : PRow) else ⟨k, cntV 1 cs k, nodesOf cs (cl k)⟩) = ⟨k, cntV 2 cs k, nodesOf cs (cl k)⟩
    by_cases z : cntS cs k = 0
    · have : cl k ∈ (rdyOf cs (firsts cs.flatten)).map cl := List.mem_map_of_mem (List.mem_filter.mpr ⟨hk, by simpa using z⟩)
      rw [if_pos this]
      unfold cntV
      rw [if_pos z]; rfl
    · have : cl k ∉ (rdyOf cs (firsts cs.flatten)).map cl := fun m => by
        obtain ⟨k', hm, e⟩ := List.mem_map.mp m
        have := (List.mem_filter.mp hm).2
        exact z ((cntS_cl e.symm).trans (by simpa using this))
      rw [if_neg this]
      unfold cntV
      rw [if_neg z, if_neg z]
  · show q.po + _ = _
    rw [h.po]
    simp
theorem Stg3.names {p : PS} {stage : Nat} {cs : List (List Int)} (h : Stg3 p stage cs) : p.names = (firsts cs.flatten).map cl := by
  unfold PS.names; rw [h.rows, List.map_map]; rfl
theorem Stg3.nodup {p : PS} {stage : Nat} {cs : List (List Int)} (h : Stg3 p stage cs) : p.names.Nodup := by rw [h.names]; exact firsts_nodup _
theorem Stg3.fits {p : PS} {stage : Nat} {cs : List (List Int)} (h : Stg3 p stage cs) (h1 : ∀ c ∈ cs, c.length ≤ 10) (h2 : cs.length ≤ 70) : p.fits 700 := by
  refine ⟨?_, fun r hr => ?_⟩
  · rw [h.rows, List.length_map]; have := firsts_7 cs.flatten; exact o220 this
  · rw [h.rows] at hr
    obtain ⟨k, _, rfl⟩ := List.mem_map.mp hr
    have := nodesOf_len h1 (cl k)
    show (nodesOf cs (cl k)).length ≤ 700
    exact o436 h2 this
theorem mem_nodes {cs : List (List Int)} {t n : Int} (hc : ∀ c ∈ cs, c ≠ []) (h : n ∈ nodesOf cs t) : n ∈ cs.flatten := by
  unfold nodesOf at h
  obtain ⟨c, hcm, h⟩ := List.mem_flatMap.mp h
  obtain ⟨o, _, rfl⟩ := List.mem_map.mp h
  refine List.mem_flatten.mpr ⟨c, hcm, ?_⟩
  match c, hc c hcm with
  | a :: c, _ => exact List.mem_cons_self
theorem Stg3.close {σ : Srt} {stage : Nat} {cs : List (List Int)} (h : Stg3 σ.abs stage cs) (hc : ∀ c ∈ cs, c ≠ []) : CloseR σ.rows := fun r hr q hq => by
  rw [← Srt.names_abs, h.names]
  have : r.abs ∈ σ.abs.rows := List.mem_map_of_mem hr
  rw [h.rows] at this
  obtain ⟨k, _, e⟩ := List.mem_map.mp this
  have es : r.su = nodesOf cs (cl k) := (congrArg PRow.su e).symm
  rw [es] at hq
  exact (firsts_mem _ _).mpr (List.mem_map_of_mem (mem_nodes hc hq))
theorem one_le (ks : List Int) (o : Int) (h : (ks.map cl).Nodup) : (ks.map fun k => if cl o = cl k then 1 else 0).sum ≤ 1 := by
  have : (ks.map fun k => if cl o = cl k then 1 else 0).sum = (ks.map cl).count (cl o) := by
    induction ks with
    | nil => rfl
    | cons k ks ih =>
      rw [List.map_cons, List.nodup_cons] at h
      rw [List.map_cons, List.map_cons, List.sum_cons, List.count_cons, ih h.2]
      by_cases z : cl o = cl k
      · rw [if_pos z, if_pos (by simpa using z.symm)]; exact o222
      · rw [if_neg z, if_neg (by simpa using Ne.symm z)]; exact o223
  rw [this]
  exact List.nodup_iff_count.mp h _
theorem sum_add (ks : List Int) (f g : Int → Nat) : (ks.map fun k => f k + g k).sum = (ks.map f).sum + (ks.map g).sum := by
  induction ks with
  | nil => rfl
  | cons k ks ih => simp only [List.map_cons, List.sum_cons, ih]; exact o224
theorem sum_one (ks : List Int) : (ks.map fun _ => 1).sum = ks.length := by
  induction ks with
  | nil => rfl
  | cons k ks ih => rw [List.map_cons, List.sum_cons, ih, List.length_cons]; exact o222
theorem nodes1_sum (ks c : List Int) (h : (ks.map cl).Nodup) : ∀ r : List Int, (ks.map fun k => (nodes1 c r (cl k)).length).sum ≤ r.length
  | [] => by
    have : (ks.map fun k => (nodes1 c [] (cl k)).length).sum = 0 := by
      induction ks with
      | nil => rfl
      | cons k ks ih => rw [List.map_cons, List.nodup_cons] at h; rw [List.map_cons, List.sum_cons, ih h.2]; rfl
    rw [this]; exact Nat.zero_le _
  | o :: r => by
    have ih := nodes1_sum ks c h r
    have e : (fun k => (nodes1 c (o :: r) (cl k)).length) = fun k => (if cl o = cl k then 1 else 0) + (nodes1 c r (cl k)).length := by
      funext k
      unfold nodes1
      by_cases z : cl o = cl k <;> simp [z]
      exact o437
    rw [e, sum_add, List.length_cons]
    have := one_le ks o h
    exact o438 ih this
theorem nodes_sum (ks : List Int) (h : (ks.map cl).Nodup) : ∀ cs : List (List Int), (∀ c ∈ cs, c.length ≤ 10) → (ks.map fun k => (nodesOf cs (cl k)).length).sum ≤ 10 * cs.length
  | [], _ => by
    have : (ks.map fun k => (nodesOf [] (cl k)).length).sum = 0 := by
      induction ks with
      | nil => rfl
      | cons k ks ih => rw [List.map_cons, List.nodup_cons] at h; rw [List.map_cons, List.sum_cons, ih h.2]; rfl
    rw [this]; exact Nat.zero_le _
  | c :: cs, hc => by
    have ih := nodes_sum ks h cs fun c' h' => hc c' (List.mem_cons_of_mem _ h')
    have e : (fun k => (nodesOf (c :: cs) (cl k)).length) = fun k => (nodes1 c c.tail (cl k)).length + (nodesOf cs (cl k)).length := by
      funext k
      unfold nodesOf nodes1
      rw [List.flatMap_cons, List.length_append]
    have h1 := nodes1_sum ks c h c.tail
    have h2 := hc c List.mem_cons_self
    rw [List.length_tail] at h1
    rw [e, sum_add, List.length_cons]
    exact o439 h2 h1 ih
theorem Stg3.wt {σ : Srt} {stage : Nat} {cs : List (List Int)} (h : Stg3 σ.abs stage cs) (h1 : ∀ c ∈ cs, c.length ≤ 10) (h2 : cs.length ≤ 70) : Mine.wt σ.rows (fun _ => false) ≤ 3000 := by
  have e : Mine.wt σ.rows (fun _ => false) = (σ.abs.rows.map fun r => r.su.length + 1).sum := by
    unfold Mine.wt Srt.abs
    rw [List.map_map]; rfl
  rw [e, h.rows, List.map_map]
  have e2 : ((fun r : PRow => r.su.length + 1) ∘ fun k => (⟨k, cntV stage cs k, nodesOf cs (cl k)⟩ : PRow)) = fun k => (nodesOf cs (cl k)).length + 1 := rfl
  rw [e2, sum_add _ _ fun _ => 1]
  have a := nodes_sum (firsts cs.flatten) (firsts_nodup _) cs h1
  have b : ((firsts cs.flatten).map fun _ => 1).sum = (firsts cs.flatten).length := sum_one _
  have c := firsts_7 cs.flatten
  exact o440 b h2 c a
theorem Stg3.rowsLe {σ : Srt} {stage : Nat} {cs : List (List Int)} (h : Stg3 σ.abs stage cs) : σ.rows.length ≤ 7 := by
  have er := congrArg List.length h.rows
  have := firsts_7 cs.flatten
  unfold Srt.abs at er
  simp at er
  exact o441 er this
end Mine
end
section
open PySem PySem.W PySem.Calls PyProof.Rows PySem.SeqAt
set_option linter.unusedSectionVars false
set_option linter.unusedVariables false
set_option maxRecDepth 100000
namespace Mine
theorem fm_set {α β : Type} {f : α → List β} {p : α} : ∀ {xs : List α} {i : Nat}, i < xs.length → ((xs.set i p).flatMap f).Perm (f p ++ (xs.eraseIdx i).flatMap f)
  | [], _, h => by simp at h
  | q :: xs, 0, _ => by rw [List.set_cons_zero, List.eraseIdx_cons_zero, List.flatMap_cons]
  | q :: xs, i + 1, h => by
    rw [List.set_cons_succ, List.eraseIdx_cons_succ, List.flatMap_cons, List.flatMap_cons]
    refine ((fm_set (f := f) (p := p) (xs := xs) (i := i) (by simpa using h)).append_left _).trans ?_
    rw [← List.append_assoc, ← List.append_assoc]
    exact List.perm_append_comm.append_right _
theorem fm_at {α β : Type} {f : α → List β} {xs : List α} {i : Nat} (h : i < xs.length) : (xs.flatMap f).Perm (f xs[i] ++ (xs.eraseIdx i).flatMap f) := by
  have := fm_set (f := f) (p := xs[i]) h
  rwa [List.set_getElem_self] at this
theorem map_set_same {α β : Type} (f : α → β) {xs : List α} {i : Nat} {p : α} (hi : i < xs.length) (e : f p = f xs[i]) : (xs.set i p).map f = xs.map f := by
  rw [List.map_set, e]
  have := List.set_getElem_self (as := xs.map f) (i := i) (by simpa using hi)
  simpa using this
theorem ref_at {α : Type} (f : α → Addr) {xs : List α} {k : Nat} (h : k < xs.length) : (xs.map fun x => V.ref (f x))[k]? = some (.ref (f xs[k])) := by
  rw [List.getElem?_map, List.getElem?_eq_getElem h]; rfl
noncomputable def dig (y : Int) (k : Nat) : Int := (y.fdiv (10 ^ (k + 1))).fmod 10
noncomputable def callOf (y : Int) : List Int := (List.range (1 + y.fmod 10).toNat).map (dig y)
theorem fmod10 (y : Int) : 0 ≤ y.fmod 10 ∧ y.fmod 10 < 10 := ⟨Int.fmod_nonneg_of_pos _ (by decide), Int.fmod_lt_of_pos _ (by decide)⟩
theorem callOf_len (y : Int) : (callOf y).length = (1 + y.fmod 10).toNat := by unfold callOf; simp
theorem callOf_ok (y : Int) : callOf y ≠ [] ∧ (callOf y).length ≤ 10 := by
  have := callOf_len y
  have := fmod10 y
  refine ⟨fun q => ?_, by exact o368 this (by assumption)⟩
  have h2 := congrArg List.length q
  rw [callOf_len] at h2
  simp only [List.length_nil] at h2
  omega
noncomputable def ten : List Int := [0, 1, 2, 3, 4, 5, 6, 7, 8, 9]
theorem ten_at {i : Int} (h0 : 0 ≤ i) (h1 : i < 10) : ten[i.toNat]? = some i := by
  obtain ⟨n, rfl⟩ := Int.eq_ofNat_of_zero_le h0
  have : n < 10 := by exact o231 h1
  exact below10 (P := fun n => ten[((n : Nat) : Int).toNat]? = some (n : Int)) rfl rfl rfl rfl rfl rfl rfl rfl rfl rfl n this
variable [ζ : Dead]
section
variable {g : G} {F : Fm} {m : Loc} {H : AH} {s : Shared} {X : Value → List V → Loc → AH → Prop} {Q : V → Loc → AH → Prop}
theorem log_small : ∀ k : Fin 21, ((10 : Int) ^ k.val).natAbs.log2 < 9000 := by decide +kernel
theorem o_divP {a : Int} {n : Nat} (hn : n ≤ 20) (h : Q (.int (a.fdiv (10 ^ n))) m H) : W2 g F VR (.int a) (.int (10 ^ n)) (binaryOp .FloorDiv) m H Q X := fun s v u S r r' => by
  rw [VR.int_iff] at r r'; obtain ⟨t, rfl⟩ := r; obtain ⟨t', rfl⟩ := r'
  exact floordiv_int (by have : (0 : Int) < 10 ^ n := Int.pow_pos (by decide); exact o232 this) (OkP.now S rfl rfl rfl (.int' _ _) h) (.inl (PyProof.noPylong_of_log2 (log_small ⟨n, by exact o233 hn⟩)))
theorem o_mul {a b : Int} (ha : 0 ≤ a ∧ a ≤ 100000) (hb : 0 ≤ b ∧ b ≤ 100000) (h : Q (.int (a * b)) m H) : W2 g F VR (.int a) (.int b) (binaryOp .Mult) m H Q X := fun s v u S r r' => by
  rw [VR.int_iff] at r r'; obtain ⟨t, rfl⟩ := r; obtain ⟨t', rfl⟩ := r'; exact PySem.P.mul_int (OkP.now S rfl rfl rfl (.int' _ _) h)
theorem o_concatB {a b : Addr} {ns : List Int} {ys : List V} (ha : LB g a ns) (hb : LA g H b ys) (hz : ns.length + ys.length ≤ 16000000) (h : ∀ c, H c = none → Q (.ref c) m (put H c (.list (nums ns ++ ys)))) : W2 g F VR (.ref a) (.ref b) (binaryOp .Add) m H Q X := fun s v u S r r' => by
  rw [VR.ref_iff] at r r'; subst r r'
  obtain ⟨vs, ⟨cls, dd, data, sl⟩, ep, e, hc, hd, rs⟩ := ha.at S
  simp only at hc hd
  subst hc hd
  obtain ⟨ws, ep', e', rs'⟩ := hb.at S
  have kp : ∀ b o, s.heap.get? b = some o → (s.heap.push (lstObj (vs ++ ws) 0)).get? b = some o := fun _ _ e => Heap.get?_push_of_some _ e
  have hl := rs.length
  rw [ints_length] at hl
  refine concat_meets ⟨_, e, rfl⟩ ⟨_, e', rfl⟩ noFill_list_add seq_list_add PySem.F.slot_list_add PySem.F.entry_list_add (PySem.F.args_list_add_2 _ _) (list_addW a b vs.toArray ws.toArray _ _ _ _ _ _ (by simp [hl, rs'.length, sizeLine_eq]; exact o141 hz)) ⟨e, e', ?_⟩
  rw [List.append_toArray]
  exact new_list S kp (Heap.get?_none_of_le (Nat.le_refl _)) (Heap.get?_push_size _ rfl) ((rs.append rs').mono fun _ _ _ q => kp _ _ q) h
end
section
variable {g : G} {F : Fm} {m : Loc} {H : AH} {X : Value → List V → Loc → AH → Prop} {Q : List V → AH → Prop}
theorem w0_call {scope : Scope} {k y names : Str} {pk pk2 pn py p1 p2 p3 p4 p5 p6 p7 p8 : Pos} {k1 k2 k3 : Nat} {ln : Addr} {n : Int} (hh : F.A.handled = none) (hn : H ln = some (.list (nms ten))) (hm : m names = some (.ref ln)) (hmy : m y = some (.int n))
    (hx : ownN scope k = true) (hy : scope.names.lookup y = some .free) (hns : scope.names.lookup names = some .free) (hdx : (k == ("__debug__" : Str)) = false) (hdy : (y == ("__debug__" : Str)) = false) (hdn : (names == ("__debug__" : Str)) = false)
    (hq : Q (nms (callOf n)) H) : Walk0 g F scope (.Name k pk) [] (emitTail (.Subscript (.Name names pn) (.BinOp (.BinOp (.Name y py) .FloorDiv (.BinOp (.Constant (.int 10) k1 p1) .Pow (.BinOp (.Name k pk2) .Add (.Constant (.int 1) k2 p2) p3) p4) p5) .Mod (.Constant (.int 10) k3 p6) p7) p8)) (.rng 0 (1 + n.fmod 10) 1) m H Q X := by
  have f := fmod10 n
  refine w0_gen (xs := List.range (1 + n.fmod 10).toNat) (fun k => .int (k : Int)) (fun k => some (nm (dig n k))) (fun H' => H' = H) (by rw [List.length_range]; exact it_rangeN (n := (1 + n.fmod 10).toNat) (by exact o234 f) (by exact o235 f)) rfl (fun i h => by rw [List.getElem_range, Int.zero_add]) (fun _ _ => trivial) rfl (fun Fc acc hC k' hk' ys hl m' H' sees e J hJ => ?_) fun H' e => ?_
  · subst e
    have sees2 : Sees scope m (setL m' k (.int (k' : Int))) := sees.set hx
    have hm2 : (setL m' k (.int (k' : Int))) names = some (.ref ln) := (sees2 _ hns).trans hm
    have hy2 : (setL m' k (.int (k' : Int))) y = some (.int n) := (sees2 _ hy).trans hmy
    have lt : k' < (1 + n.fmod 10).toNat := by simpa using hk'
    refine a_name (hC.loc hx) (tests_nil ?_)
    rw [if_pos rfl]
    have d := fmod10 (n.fdiv (10 ^ (k' + 1)))
    have it : (nms ten)[((n.fdiv (10 ^ (k' + 1))).fmod 10).toNat]? = some (nm (dig n k')) := by
      unfold nms
      rw [List.getElem?_map, ten_at d.1 d.2]; rfl
    refine acc_emit (by rw [sizeLine_eq]; simp at hl; exact o236 f hl) (e_sub <| e_name hm2 (hd := hdn) <| e_bin <| e_bin <| e_name hy2 (hd := hdy) <| e_bin <| e_int <| e_bin <| e_name (setL_self ..) (hd := hdx) <| e_int <| o_add <| o_pow (n := k' + 1) (by exact o237) (by exact o238 f lt) <| o_divP (by exact o238 f lt) <| e_int <| o_mod (by decide) <|
      gi_list (.own hn) <| o_item (.own hn) d.1 (by exact o369 d) it <| hJ _ _ rfl sees2)
  · subst e
    have : (List.range (1 + n.fmod 10).toNat).filterMap (fun k => some (nm (dig n k))) = nms (callOf n) := by unfold nms callOf; rw [List.filterMap_eq_map', List.map_map]; rfl
    rw [this]; exact hq
end
structure Bk where
  σ : Srt
  b : Addr
  as : List Addr
  cs : List (List Int)
noncomputable def Bk.own (p : Bk) : List (Addr × O) := (p.b, .list (refs p.as)) :: (p.as.zip p.cs).map fun q => (q.1, .list (nms q.2))
noncomputable def bkLay (p : Bk) : List (Addr × O) := p.σ.lay ++ p.own
structure Bk.Ok (p : Bk) : Prop where
  len : p.as.length = p.cs.length
  ne : ∀ c ∈ p.cs, c ≠ []
  sz : ∀ c ∈ p.cs, c.length ≤ 10
  few : p.cs.length ≤ 70
theorem Bk.Ok.calls {H : AH} {p : Bk} {L : List (Addr × O)} (x : p.Ok) (s : Sat H L) (h : ∀ q ∈ p.own, q ∈ L) : CallsAt H p.b p.as p.cs := by
  refine ⟨s.get (h _ (.head _)), x.len, fun i h1 h2 => s.get (h _ (.tail _ ?_)), x.ne, x.sz, Nat.le_trans x.few (by decide)⟩
  have lt : i < (p.as.zip p.cs).length := by simp; exact o213 h2 h1
  have := List.getElem_mem lt
  rw [List.getElem_zip] at this
  exact List.mem_map.mpr ⟨_, this, rfl⟩
structure Two (ps : List Bk) (ln ls lb : Addr) (C : List (Addr × O)) (H : AH) : Prop where
  two : ps.length = 2
  sat : Sat H (ps.flatMap bkLay ++ ([(ln, .list (nms ten)), (ls, .list (ps.map fun p => .ref p.σ.x)), (lb, .list (ps.map fun p => .ref p.b))] ++ C))
  ok : ∀ p ∈ ps, p.Ok
noncomputable def rest (ps : List Bk) (k : Nat) (ln ls lb : Addr) (C : List (Addr × O)) : List (Addr × O) := (ps.eraseIdx k).flatMap bkLay ++ ([(ln, .list (nms ten)), (ls, .list (ps.map fun p => .ref p.σ.x)), (lb, .list (ps.map fun p => .ref p.b))] ++ C)
theorem Two.ext {ps : List Bk} {ln ls lb : Addr} {C : List (Addr × O)} {H H' : AH} (x : Two ps ln ls lb C H) (e : Ext H H') : Two ps ln ls lb C H' := ⟨x.two, e.sat x.sat, x.ok⟩
theorem Two.n {ps : List Bk} {ln ls lb : Addr} {C : List (Addr × O)} {H : AH} (x : Two ps ln ls lb C H) : H ln = some (.list (nms ten)) := x.sat.get (List.mem_append_right _ (.head _))
theorem Two.s {ps : List Bk} {ln ls lb : Addr} {C : List (Addr × O)} {H : AH} (x : Two ps ln ls lb C H) : H ls = some (.list (ps.map fun p => .ref p.σ.x)) := x.sat.get (List.mem_append_right _ (.tail _ (.head _)))
theorem Two.b {ps : List Bk} {ln ls lb : Addr} {C : List (Addr × O)} {H : AH} (x : Two ps ln ls lb C H) : H lb = some (.list (ps.map fun p => .ref p.b)) := x.sat.get (List.mem_append_right _ (.tail _ (.tail _ (.head _))))
theorem Two.at {ps : List Bk} {ln ls lb : Addr} {C : List (Addr × O)} {H : AH} (x : Two ps ln ls lb C H) {k : Nat} (hk : k < ps.length) : Sat H (ps[k].σ.lay ++ (ps[k].own ++ rest ps k ln ls lb C)) := by
  refine x.sat.perm ?_
  refine ((fm_at (f := bkLay) hk).append_right _).trans ?_
  unfold bkLay rest
  simp only [List.append_assoc, List.cons_append, List.nil_append]
  exact List.Perm.refl _
theorem Two.calls {ps : List Bk} {ln ls lb : Addr} {C : List (Addr × O)} {H : AH} (x : Two ps ln ls lb C H) {k : Nat} (hk : k < ps.length) : CallsAt H ps[k].b ps[k].as ps[k].cs :=
  (x.ok _ (List.getElem_mem hk)).calls (x.at hk) fun q hq => List.mem_append_right _ (List.mem_append_left _ hq)
theorem Two.re {ps : List Bk} {ln ls lb : Addr} {C : List (Addr × O)} {H H' : AH} (x : Two ps ln ls lb C H) {k : Nat} (hk : k < ps.length) {p : Bk} (hx : p.σ.x = ps[k].σ.x) (hb : p.b = ps[k].b) (ho : p.Ok) (s : Sat H' (p.σ.lay ++ (p.own ++ rest ps k ln ls lb C))) : Two (ps.set k p) ln ls lb C H' := by
  refine ⟨by rw [List.length_set]; exact x.two, ?_, fun q hq => ?_⟩
  · have e1 : (ps.set k p).map (fun p => V.ref p.σ.x) = ps.map fun p => V.ref p.σ.x := map_set_same _ hk (by show V.ref p.σ.x = V.ref ps[k].σ.x; rw [hx])
    have e2 : (ps.set k p).map (fun p => V.ref p.b) = ps.map fun p => V.ref p.b := map_set_same _ hk (by show V.ref p.b = V.ref ps[k].b; rw [hb])
    rw [e1, e2]
    refine s.perm ?_
    refine List.Perm.trans ?_ ((fm_set (f := bkLay) (p := p) hk).symm.append_right _)
    unfold bkLay rest
    simp only [List.append_assoc, List.cons_append, List.nil_append]
    exact List.Perm.refl _
  · rcases List.mem_or_eq_of_mem_set hq with q1 | q1
    · exact x.ok _ q1
    · subst q1; exact ho
end Mine
end
section
open PySem PySem.W PySem.Calls PyProof.Rows PySem.SeqAt
set_option linter.unusedSectionVars false
set_option linter.unusedVariables false
set_option maxRecDepth 100000
set_option maxHeartbeats 4000000
namespace Mine
noncomputable def codeIn1 : Option Obj → List Stmt
  | some ⟨_, _, .func fd, _⟩ => (match fd.body with | .stmts b => b | _ => [])
  | _ => []
noncomputable def scopeIn1 : Option Obj → Scope
  | some ⟨_, _, .func fd, _⟩ => fd.scope
  | _ => default
noncomputable def forB : Stmt → List Stmt
  | .For _ _ b _ _ => b
  | _ => []
noncomputable def fourth : List Stmt → List Stmt
  | _ :: _ :: _ :: s :: _ => forB s
  | _ => []
noncomputable def fifth : List Stmt → List Stmt
  | _ :: _ :: _ :: _ :: s :: _ => forB s
  | _ => []
noncomputable abbrev lit {α : Type} {x : α} (_ : x = x) : α := x
noncomputable def lawB (P : Params) : List Stmt := by
  refine lit (x := ?x) ?h
  case h =>
    have e : codeIn1 ((kx.heap_1 P).lookup 175) = ?x := by
      conv => lhs; whnf
    exact rfl
noncomputable def lawS (P : Params) : Scope := by
  refine lit (x := ?x) ?h
  case h =>
    have e : scopeIn1 ((kx.heap_1 P).lookup 175) = ?x := by
      conv => lhs; whnf
    exact rfl
noncomputable def turnA (P : Params) : List Stmt := by
  refine lit (x := ?x) ?h
  case h =>
    have e : fourth (lawB P) = ?x := by
      conv => lhs; whnf
    exact rfl
noncomputable def turnB (P : Params) : List Stmt := by
  refine lit (x := ?x) ?h
  case h =>
    have e : fifth (lawB P) = ?x := by
      conv => lhs; whnf
    exact rfl
variable [ζ : Dead]
theorem rdNone {σ : Srt} {cs : List (List Int)} (h : σ.abs = tellAll ps0 cs) : σ.rd = none := Srt.rd_none (by rw [h]; exact (all_more cs ps0).1)
theorem tell_snoc (cs : List (List Int)) (c : List Int) : tellAll ps0 (cs ++ [c]) = (tellAll ps0 cs).add (headOf c) c.tail := by unfold tellAll; rw [List.foldl_append]; rfl
theorem Bk.Ok.snoc {p : Bk} (x : p.Ok) (h : p.cs.length ≤ 69) {σ : Srt} {a : Addr} {c : List Int} (hc : c ≠ []) (hz : c.length ≤ 10) : Bk.Ok ⟨σ, p.b, p.as ++ [a], p.cs ++ [c]⟩ := by
  refine ⟨?_, fun q hq => ?_, fun q hq => ?_, ?_⟩
  · show (p.as ++ [a]).length = (p.cs ++ [c]).length
    rw [List.length_append, List.length_append, x.len]; rfl
  · rcases List.mem_append.mp hq with hq | hq
    · exact x.ne q hq
    · rw [List.mem_singleton.mp hq]; exact hc
  · rcases List.mem_append.mp hq with hq | hq
    · exact x.sz q hq
    · rw [List.mem_singleton.mp hq]; exact hz
  · show (p.cs ++ [c]).length ≤ 70
    rw [List.length_append]; simp; exact o239 h
section
variable {g : G} {F F' : Fm} {m : Loc} {H : AH} {X : Value → List V → Loc → AH → Prop} {Q : Fl → Loc → AH → Prop} {B : List (Addr × O)}
theorem turn_1 (D : Gd g) (hF : FrameOf F' F (lawS g.w.params)) (lv : F'.lvl < 40) (hh : F.A.handled = none) {ps : List Bk} {ln ls lb : Addr} {C : List (Addr × O)} (T : Two ps ln ls lb C H) (A : ∀ p ∈ ps, p.σ.abs = tellAll ps0 p.cs) (few : ∀ p ∈ ps, p.cs.length ≤ 69)
    (m1 : m "names" = some (.ref ln)) (m2 : m "sorters" = some (.ref ls)) (m3 : m "books" = some (.ref lb)) {i : Nat} {x : Int} (hi : i ≤ 100) (mi : m "i" = some (.int i)) (mx : m "x" = some (.int x))
    (h : ∀ (k : Nat) (hk : k < ps.length) p m' H', Two (ps.set k p) ln ls lb C H' → p.cs.length = ps[k].cs.length + 1 → (∀ p' ∈ ps.set k p, p'.σ.abs = tellAll ps0 p'.cs) → m' "names" = some (.ref ln) → m' "sorters" = some (.ref ls) → m' "books" = some (.ref lb) → Q .next m' H') :
    WS g F' (execs (turnA g.w.params) F'.env) m H Q X := by
  have M := m_addB g.w.params
  rw [← D.K] at M
  refine s_cons <| s_assign (hF.cel rfl) rfl <| e_bin <| e_name mx <| e_bin <| e_int <| e_name mi <| o_mul (by decide) ⟨by exact o201, by exact o240 hi⟩ <| o_add ?_
  generalize x + 24683 * (i : Int) = y
  have f := fmod10 y
  obtain ⟨k, hk2, ek⟩ : ∃ k : Nat, k < 2 ∧ y.fmod 2 = k := by
    have h0 := Int.fmod_nonneg_of_pos y (b := 2) (by decide)
    have h1 := Int.fmod_lt_of_pos y (b := 2) (by decide)
    exact ⟨(y.fmod 2).toNat, by exact o241 h1, by exact o242 h0⟩
  have hk : k < ps.length := by rw [T.two]; exact hk2
  refine s_cons <| s_setcomp (by first | exact .inl (swaps_by hF.scope rfl) | exact .inr (swaps_by hF.scope rfl)) (hF.loc rfl) (CompHead.of hF rfl rfl) (fun _ => rfl) (hF.hh hh) hF.st (fun Fc acc it => turn_one ..) <|
    e_call <| e_blt (hF.glo rfl) (D.nb rfl) D.range (fn_ok <| cw_plain (.type _) <| l_cons <| e_bin <| e_int <| e_bin <| e_name rfl <| e_int <| o_mod (by decide) <| o_add <| l_nil <| c_range1 <| w0_call (ln := ln) (n := y) (hF.hh hh) T.n (by exact m1) rfl rfl rfl rfl rfl rfl rfl fun ac hac => ?_)
  obtain ⟨c1, c2⟩ := callOf_ok y
  generalize callOf y = c at c1 c2
  have Tk := T.at hk
  have sz := (T.ok _ (List.getElem_mem hk)).few
  have P0 : Stg3 ps[k].σ.abs 0 ps[k].cs := by rw [A _ (List.getElem_mem hk)]; exact stg0 (T.ok _ (List.getElem_mem hk)).ne
  have s1 : Sat (put H ac (.list (nms c))) (ps[k].σ.lay ++ ((ac, .list (nms c)) :: (ps[k].own ++ rest ps k ln ls lb C))) := (Tk.new hac).perm List.perm_middle.symm
  have T1 := T.ext ((Ext.refl H).put (o := .list (nms c)) hac)
  generalize put H ac (.list (nms c)) = H1 at s1 T1
  match c, c1 with
  | k0 :: qs, _ =>
  refine s_cons <| s_assign (hF.loc rfl) rfl <| e_methstar <| e_sub <| e_name (by exact m2) <| e_bin <| e_name rfl <| e_int <| o_mod (by decide) ?_
  rw [ek]
  refine gi_list (.own T1.s) <| o_item (.own T1.s) (by exact o201) (by exact o370 hk2) (by rw [Int.toNat_natCast]; exact ref_at (·.σ.x) hk) ⟨_, 137, _, _, 87, rfl, Srt.inst s1, Srt.ns s1, M, rfl, e_comp (CompHead.of hF rfl rfl) (fun _ => rfl) (hF.hh hh) hF.st (fun Fc acc it => turn_one ..) <| e_name rfl <| w0_names (told := k0 :: qs) (hF.hh hh) (s1.get (List.mem_append_right _ (.head _))) (by exact o203 c2) rfl rfl rfl fun b hb =>
    ⟨cds (k0 :: qs), ⟨by rw [cds_length, sizeLine_eq]; exact o204 c2, .inr ⟨b, rfl, .own (put_self ..)⟩⟩, ?_⟩⟩
  have s2 := ((Ext.refl H1).put (o := .list (cds (k0 :: qs))) hb).sat s1
  refine add_spec (σ := ps[k].σ) D (Nat.lt_of_lt_of_le lv (by decide)) (hF.hh hh) (by simp at c2; exact o205 c2) s2 P0.nodup (P0.fits (T.ok _ (List.getElem_mem hk)).sz sz) ?_
  rw [rdNone (A _ (List.getElem_mem hk))]
  intro σ' H3 hx habs s3
  have hlb : H3 lb = some (.list (ps.map fun p => .ref p.b)) := s3.get (List.mem_append_right _ (.tail _ (List.mem_append_right _ (List.mem_append_right _ (List.mem_append_left _ (.tail _ (.tail _ (.head _))))))))
  have hb3 : H3 ps[k].b = some (.list (refs ps[k].as)) := s3.get (List.mem_append_right _ (.tail _ (List.mem_append_left _ (.head _))))
  have okk := T.ok _ (List.getElem_mem hk)
  have s4 : Sat (put H3 ps[k].b (.list (refs ps[k].as ++ [.ref ac]))) (σ'.lay ++ ((⟨σ', ps[k].b, ps[k].as ++ [ac], ps[k].cs ++ [k0 :: qs]⟩ : Bk).own ++ rest ps k ln ls lb C)) := by
    have e1 : σ'.lay ++ ((ac, O.list (nms (k0 :: qs))) :: (ps[k].own ++ rest ps k ln ls lb C)) = (σ'.lay ++ [(ac, O.list (nms (k0 :: qs)))]) ++ (ps[k].b, O.list (refs ps[k].as)) :: (((ps[k].as.zip ps[k].cs).map fun q => (q.1, O.list (nms q.2))) ++ rest ps k ln ls lb C) := by
      unfold Bk.own; simp
    rw [e1] at s3
    have z := s3.mid (.list (refs ps[k].as ++ [.ref ac]))
    refine z.perm ?_
    unfold Bk.own
    rw [List.zip_append okk.len, refs_snoc, List.map_append]
    rw [List.append_assoc]
    refine List.Perm.append_left _ ?_
    have := perm_rot [(ac, O.list (nms (k0 :: qs)))] ((ps[k].b, O.list (refs ps[k].as ++ [.ref ac])) :: ((ps[k].as.zip ps[k].cs).map fun q => (q.1, O.list (nms q.2)))) (rest ps k ln ls lb C)
    simpa using this
  have T4 := T.re (p := ⟨σ', ps[k].b, ps[k].as ++ [ac], ps[k].cs ++ [k0 :: qs]⟩) hk hx rfl (okk.snoc (few _ (List.getElem_mem hk)) (by simp) c2) s4
  have A4 : ∀ p' ∈ ps.set k ⟨σ', ps[k].b, ps[k].as ++ [ac], ps[k].cs ++ [k0 :: qs]⟩, p'.σ.abs = tellAll ps0 p'.cs := fun p' hp' => by
    rcases List.mem_or_eq_of_mem_set hp' with q1 | q1
    · exact A _ q1
    · subst q1
      show σ'.abs = tellAll ps0 (ps[k].cs ++ [k0 :: qs])
      rw [tell_snoc, ← A _ (List.getElem_mem hk), habs]; rfl
  refine s_cons <| s_expr <| e_meth <| e_sub <| e_name (by exact m3) <| e_bin <| e_name rfl <| e_int <| o_mod (by decide) ?_
  rw [ek]
  refine gi_list (.own hlb) <| o_item (.own hlb) (by exact o201) (by exact o370 hk2) (by rw [Int.toNat_natCast]; exact ref_at (·.b) hk) (me_ok (meth_list (.own hb3) PySem.F.slot_list_append PySem.F.type_list_append) <| cw_plain (.blt _) <| l_cons <| e_name rfl <| l_nil <| c_append hb3 (by rw [refs_len, okk.len]; exact o243 sz) ?_)
  refine s_cons <| s_if <| t_cmp rfl <| e_name rfl <| e_none <| o_isnn (fun _ => by simp) <| tr_bool <| s_nil ?_
  have hp := h k hk ⟨σ', ps[k].b, ps[k].as ++ [ac], ps[k].cs ++ [k0 :: qs]⟩
  have hl4 : (ps[k].cs ++ [k0 :: qs]).length = ps[k].cs.length + 1 := by rw [List.length_append]; rfl
  generalize put H3 ps[k].b _ = H4 at *
  have hp := fun m' H' T => hp m' H' T hl4 A4
  generalize ps.set k ⟨σ', ps[k].b, ps[k].as ++ [ac], ps[k].cs ++ [k0 :: qs]⟩ = ps4 at T4 A4 hp
  refine s_cons <| s_for (fun _ => rfl) <| e_call <| e_blt (hF.glo rfl) (D.nb rfl) D.range (fn_ok <| cw_plain (.type _) <| l_cons <| e_int <| l_nil <| c_range1 <| for_any (it_rangeN (n := 2) rfl (by decide)) (fun j m' H' => Ext H4 H' ∧ m' "names" = some (.ref ln) ∧ m' "sorters" = some (.ref ls) ∧ m' "books" = some (.ref lb)) (hF.hh hh) hF.st (fun _ _ _ _ => trivial) ⟨.refl _, by exact m1, by exact m2, by exact m3⟩ (fun j m' H' hj qq1 => qq1.elim fun e qq2 => qq2.elim fun n1 qq3 => qq3.elim fun n2 n3 => ?_) (fun m' H' qq4 => qq4.elim fun e qq5 => qq5.elim fun n1 qq6 => qq6.elim fun n2 n3 => s_nil (s_nil (hp _ _ (T4.ext e) n1 n2 n3))))
  have T5 := T4.ext e
  have hj' : j < ps4.length := by rw [T4.two]; exact hj
  have ok5 := T4.ok _ (List.getElem_mem hj')
  have P5 : Stg3 ps4[j].σ.abs 0 ps4[j].cs := by rw [A4 _ (List.getElem_mem hj')]; exact stg0 ok5.ne
  have s5 := T5.at hj'
  have c5 := T5.calls hj'
  refine a_name (hF.loc rfl) <| s_cons <| s_if <| t_not <| t_val <| e_call <| e_glob (hF.glo rfl) (D.nb rfl) (fun _ => .cst' _) (fn_ok <| cw_plain (D.kp rfl) <| l_cons <| e_call <| e_glob (hF.glo rfl) (D.nb rfl) (fun _ => .cst' _) (fn_ok <| cw_plain (D.kp rfl) <| l_cons <| e_sub <| e_name (by exact n2) <| e_name rfl <| gi_at (.own T5.s) (by exact o244 hj) (ref_at (·.σ.x) hj') <| l_nil <| WCode.call <| law_kept_spec D (Nat.lt_of_lt_of_le lv (by decide)) (hF.hh hh) s5 (by have := P5.rowsLe; exact o245 this) fun l as H6 la e6 s6 =>
    l_cons <| e_call <| e_glob (hF.glo rfl) (D.nb rfl) (fun _ => .cst' _) (fn_ok <| cw_plain (D.kp rfl) <| l_cons <| e_sub <| e_name (by exact n3) <| e_name rfl <| gi_at (.own (e6 _ _ T5.b)) (by exact o244 hj) (ref_at (·.b) hj') <| l_cons <| e_int <| l_nil <| WCode.call <| due_spec (stage := 0) D (Nat.lt_of_lt_of_le lv (by decide)) (hF.hh hh) (by decide) (c5.ext e6) fun ms l' hd as' H7 hp hs e7 due =>
    l_nil <| WCode.call <| law_same D 4 ζ _ _ _ _ _ _ _ (by exact o246 lv) (hF.hh hh) (same_tab (by decide) (fun t => ?_) (firsts_7 _) P5 la ((e6.trans e7).sat s5) (e7.sat s6) (by rw [← keys_are hp hs]; exact due)) fun H8 e8 => tr_bool ?_)))
  · have h1 := nodesOf_len ok5.sz t
    have h2 := ok5.few
    exact o442 h2 h1
  · exact s_nil (s_nil ⟨e.trans (e6.trans (e7.trans e8)), n1, n2, n3⟩)
end
end Mine
end
section
open PySem PySem.W PySem.Calls PyProof.Rows PySem.SeqAt
set_option linter.unusedSectionVars false
set_option linter.unusedVariables false
set_option maxRecDepth 100000
set_option maxHeartbeats 4000000
namespace Mine
variable [ζ : Dead]
theorem refs_app (a b : List Addr) : refs (a ++ b) = refs a ++ refs b := by unfold refs; simp
theorem calls_app {H : AH} {l l1 l2 : Addr} {a1 a2 : List Addr} {c1 c2 : List (List Int)} (x : CallsAt H l1 a1 c1) (y : CallsAt H l2 a2 c2) (h1 : c1.length ≤ 70) (h2 : c2.length ≤ 70) (e : H l = some (.list (refs a1 ++ refs a2))) : CallsAt H l (a1 ++ a2) (c1 ++ c2) where
  top := by rw [refs_app]; exact e
  len := by rw [List.length_append, List.length_append, x.len, y.len]
  each := fun i h h' => by
    by_cases z : i < a1.length
    · rw [List.getElem_append_left z, List.getElem_append_left (by rw [← x.len]; exact z)]
      exact x.each i z _
    · rw [List.getElem_append_right (by exact o22 z), List.getElem_append_right (by rw [← x.len]; exact o22 z)]
      have := y.each (i - a1.length) (by rw [List.length_append] at h; exact o48 h z) (by rw [List.length_append] at h'; have := x.len; exact o248 this h' z)
      simp only [x.len] at this ⊢
      exact this
  ne := fun c hc => by rcases List.mem_append.mp hc with q | q; exact x.ne c q; exact y.ne c q
  sz := fun c hc => by rcases List.mem_append.mp hc with q | q; exact x.sz c q; exact y.sz c q
  few := by rw [List.length_append]; exact o249 h1 h2
theorem lt_two {ps : List Bk} {ln ls lb : Addr} {C : List (Addr × O)} {H : AH} (T : Two ps ln ls lb C H) : 0 < ps.length ∧ 1 < ps.length := by rw [T.two]; decide
section
variable {g : G} {F F' : Fm} {m : Loc} {H : AH} {X : Value → List V → Loc → AH → Prop} {Q : Fl → Loc → AH → Prop} {B : List (Addr × O)}
theorem s_refused (D : Gd g) (hF : FrameOf F' F (lawS g.w.params)) (lv : F'.lvl < 40) (hh : F.A.handled = none) {ps : List Bk} {ln ls lb : Addr} {C : List (Addr × O)} (T : Two ps ln ls lb C H) {k : Nat} (hk : k < ps.length) {stage : Nat} (P : Stg3 ps[k].σ.abs stage ps[k].cs) (h1 : stage ≠ 0) (h2 : stage ≤ 2)
    (m2 : m "sorters" = some (.ref ls)) (m3 : m "books" = some (.ref lb)) (mk : m "k" = some (.int (0 + (k : Int)))) (h : ∀ H', Ext H H' → Q .next m H')
    {body : List Stmt} {sv : Int} (hs : sv = (stage : Int)) {k1 k2 k3 : Nat} {p1 p2 p3 p4 p5 p6 p7 p8 p9 p10 p11 p12 p13 p14 p15 p16 p17 p18 p19 p20 : Pos} :
    WS g F' (exec (.If (.UnaryOp .Not (.Call (.Name "_law_refused" p1) [.Subscript (.Name "sorters" p2) (.Name "k" p3) p4, .BinOp (.Subscript (.Name "books" p5) (.Constant (.int 0) k1 p6) p7) .Add (.Subscript (.Name "books" p8) (.Constant (.int 1) k2 p9) p10) p11,
      .Call (.Name "_law_due" p12) [.Subscript (.Name "books" p13) (.Name "k" p14) p15, .Constant (.int sv) k3 p16] [] p17] [] p18) p19) body [] p20) F'.env) m H Q X := by
  subst hs
  have k2 : k < 2 := by rw [← T.two]; exact hk
  have okk := T.ok _ (List.getElem_mem hk)
  have s0 := T.at hk
  obtain ⟨z0, z1⟩ := lt_two T
  have hrd : ∃ rd, ps[k].σ.rd = some rd := by
    have := P.rd
    rw [if_neg h1] at this
    obtain ⟨a, ha⟩ := Srt.rd_of this
    exact ⟨_, ha⟩
  obtain ⟨rd, hrd⟩ := hrd
  have b0 := T.calls z0
  have b1 := T.calls z1
  have f0 := (T.ok _ (List.getElem_mem z0)).few
  have f1 := (T.ok _ (List.getElem_mem z1)).few
  refine s_if <| t_not <| t_val <| e_call <| e_glob (hF.glo rfl) (D.nb rfl) (fun _ => .cst' _) (fn_ok <| cw_plain (D.kp rfl) <| l_cons <| e_sub <| e_name m2 <| e_name mk <| gi_at (.own T.s) (by exact o244 k2) (ref_at (·.σ.x) hk) <|
    l_cons <| e_bin <| e_sub <| e_name m3 <| e_int <| gi_list (.own T.b) <| o_item (.own T.b) (by decide) (by decide) (ref_at (·.b) z0) <| e_sub <| e_name m3 <| e_int <| gi_list (.own T.b) <| o_item (.own T.b) (by decide) (by decide) (ref_at (·.b) z1) <| o_concat (.own b0.top) (.own b1.top) (by rw [refs_len, refs_len, b0.len, b1.len]; exact o250 f0 f1) fun lc hlc =>
    l_cons <| e_call <| e_glob (hF.glo rfl) (D.nb rfl) (fun _ => .cst' _) (fn_ok <| cw_plain (D.kp rfl) <| l_cons <| e_sub <| e_name m3 <| e_name mk <| gi_at (.own (((Ext.refl H).put hlc) _ _ T.b)) (by exact o244 k2) (ref_at (·.b) hk) <| l_cons <| e_int <| l_nil <| WCode.call <|
      due_spec (stage := stage) D (Nat.lt_of_lt_of_le lv (by decide)) (hF.hh hh) h2 ((T.calls hk).ext ((Ext.refl H).put hlc)) fun ms ld hd as' H2 hp hs e2 due => l_nil <| WCode.call ?_))
  have e1 := (Ext.refl H).put (o := .list (refs ps[0].as ++ refs ps[1].as)) hlc
  have ec := e1.trans e2
  have cc := calls_app (b0.ext ec) (b1.ext ec) f0 f1 (e2 _ _ (put_self ..))
  rw [keys_are hp hs] at due
  refine refused_spec D (Nat.lt_of_lt_of_le lv (by decide)) (hF.hh hh) (ec.sat s0) P.nodup (P.fits okk.sz okk.few) hrd (by have := P.rowsLe; exact o245 this) cc (fun l as H3 la e3 s3 => ?_) fun H3 e3 => tr_bool (s_nil (h _ (ec.trans e3)))
  refine same_tab h2 (fun t => ?_) (firsts_7 _) P la ((ec.trans e3).sat s0) s3 ⟨e3 _ _ due.top, due.len, fun p hp => (due.rows p hp).ext e3, due.head.ext e3⟩
  have := nodesOf_len okk.sz t
  have := okk.few
  exact o442 this (by assumption)
end
end Mine
end
section
open PySem PySem.W PySem.Calls PyProof.Rows PySem.SeqAt
set_option linter.unusedSectionVars false
set_option linter.unusedVariables false
set_option maxRecDepth 100000
set_option maxHeartbeats 4000000
namespace Mine
variable [ζ : Dead]
theorem m_prep (p : Params) : MethD (Mine.kx.heap_1 p) 137 "prepare" 92 := ⟨rfl, rfl, rfl⟩
theorem m_getr (p : Params) : MethD (Mine.kx.heap_1 p) 137 "get_ready" 99 := ⟨rfl, rfl, rfl⟩
noncomputable def Bk.put (p : Bk) (σ : Srt) : Bk := { p with σ := σ }
theorem Bk.Ok.put {p : Bk} (x : p.Ok) (σ : Srt) : (p.put σ).Ok := ⟨x.len, x.ne, x.sz, x.few⟩
theorem at_set {ps : List Bk} {k : Nat} {p : Bk} (hk : k < (ps.set k p).length) : (ps.set k p)[k] = p := by simp
theorem same_tuples {H : AH} (ns : List Int) (h : ns.length ≤ 1000) : SameD H 4 (.tup (cds ns)) (.tup (cds ns)) := .inr ⟨"tuple", cds ns, cds ns, .inr ⟨rfl, rfl⟩, .inr ⟨rfl, rfl⟩, rfl, by rw [cds_length]; exact h, fun i hi => by
  rw [cds_length] at hi
  rw [cds_get hi]; exact same_name H 2 _⟩
section
variable {g : G} {F F' : Fm} {m : Loc} {H : AH} {X : Value → List V → Loc → AH → Prop} {Q : Fl → Loc → AH → Prop} {B : List (Addr × O)}
theorem turn_2 (D : Gd g) (hF : FrameOf F' F (lawS g.w.params)) (lv : F'.lvl < 40) (hh : F.A.handled = none) {ps : List Bk} {ln ls lb : Addr} {C : List (Addr × O)} (T : Two ps ln ls lb C H) {k : Nat} (hk : k < ps.length) (P : Stg3 ps[k].σ.abs 0 ps[k].cs) (hrd : ps[k].σ.rd = none)
    (m2 : m "sorters" = some (.ref ls)) (m3 : m "books" = some (.ref lb)) (mk : m "k" = some (.int (0 + (k : Int))))
    (h : ∀ p m' H', Two (ps.set k p) ln ls lb C H' → m' "sorters" = some (.ref ls) → m' "books" = some (.ref lb) → Q .next m' H') :
    WS g F' (execs (turnB g.w.params) F'.env) m H Q X := by
  have M := m_prep g.w.params
  have M' := m_getr g.w.params
  rw [← D.K] at M M'
  have k2 : k < 2 := by rw [← T.two]; exact hk
  have okk := T.ok _ (List.getElem_mem hk)
  have s0 := T.at hk
  refine s_mid (fun m4 H4 => ∃ σ, Two (ps.set k (ps[k].put σ)) ln ls lb C H4 ∧ Stg3 σ.abs 1 ps[k].cs ∧ m4 "sorters" = some (.ref ls) ∧ m4 "books" = some (.ref lb) ∧ m4 "k" = some (.int (0 + (k : Int)))) ?_ fun m4 H4 qq1 => qq1.elim fun σ1 qq2 => qq2.elim fun T1 qq3 => qq3.elim fun P1 qq4 => qq4.elim fun n2 qq5 => qq5.elim fun n3 nk => ?_
  · refine s_try hF.st <| s_cons <| s_if <| t_cmp rfl <| e_meth <| e_sub <| e_name m2 <| e_name mk <| gi_at (.own T.s) (by exact o244 k2) (ref_at (·.σ.x) hk) (me_ok (meth_inst M (Srt.inst s0) (Srt.ns s0) rfl) <| cw_plain (D.kp rfl) <| l_nil <| WCode.call <| prepare_spec D (Nat.lt_of_lt_of_le lv (by decide)) (hF.hh hh) s0 P.nodup (P.close okk.ne) (P.wt okk.sz okk.few) hrd (by have := P.rowsLe; exact o251 this) fun σ' H' hx habs s' => ⟨?_, fun l => ?_⟩)
    · exact e_none <| o_isnn (fun _ => by simp) <| tr_bool <| s_nil <| s_nil <| s_nil ⟨σ', T.re hk hx rfl (okk.put σ') s', stg1 P habs, m2, m3, mk⟩
    · refine h_take_as ((hF.kindOf _).trans rfl) (spec_glob (hF.glo rfl) (D.nb rfl)) (cyc_cyc D) fun e a ha => ?_
      refine s_cons <| s_if <| t_cmp rfl <| e_sub <| e_attr <| e_name rfl <| x_argsOwn D (put_self ..) <| e_int <| gi_tup <| o_itemT (by decide) (by decide) rfl <| e_str <| o_ne rfl rfl (Nat.le_of_ble_eq_true rfl) <| tr_bool ?_
      rw [veq_refl _ rfl, if_neg (by decide)]
      exact s_nil (s_nil ⟨σ', by rw [rem_put ha]; exact T.re hk hx rfl (okk.put σ') s', stg1 P habs, by exact m2, by exact m3, by exact mk⟩)
  · have hk1 : k < (ps.set k (ps[k].put σ1)).length := by rw [List.length_set]; exact hk
    have e1 := at_set hk1
    have PP : Stg3 (ps.set k (ps[k].put σ1))[k].σ.abs 1 (ps.set k (ps[k].put σ1))[k].cs := by rw [e1]; exact P1
    refine s_cons <| s_refused D hF lv hh T1 hk1 PP (by decide) (by decide) n2 n3 nk (hs := rfl) fun H5 e5 => ?_
    have T5 := T1.ext e5
    have s5 := T5.at hk1
    have c5 := T5.calls hk1
    generalize hps : ps.set k (ps[k].put σ1) = ps1 at *
    have okk1 := T5.ok _ (List.getElem_mem hk1)
    have hr1 := PP.rd
    rw [if_neg (by decide), if_pos rfl] at hr1
    obtain ⟨ra, hra⟩ := Srt.rd_of hr1
    have f7 := firsts_7 ps1[k].cs.flatten
    have r7 : (rdyOf ps1[k].cs (firsts ps1[k].cs.flatten)).length ≤ 7 := Nat.le_trans (List.length_filter_le ..) f7
    refine s_cons <| s_if <| t_not <| t_val <| e_call <| e_glob (hF.glo rfl) (D.nb rfl) (fun _ => .cst' _) (fn_ok <| cw_plain (D.kp rfl) <| l_cons <| e_meth <| e_sub <| e_name n2 <| e_name nk <| gi_at (.own T5.s) (by exact o244 k2) (ref_at (·.σ.x) hk1) (me_ok (meth_inst M' (Srt.inst s5) (Srt.ns s5) rfl) <| cw_plain (D.kp rfl) <| l_nil <| WCode.call <| get_ready_spec D (Nat.lt_of_lt_of_le lv (by decide)) (hF.hh hh) s5 PP.nodup ?_))
    rw [hra]
    refine ⟨by exact o252 r7, fun n hn => ?_, fun σ2 H6 hx2 habs2 s6 => ?_⟩
    · rw [PP.names]
      exact List.mem_map_of_mem (List.mem_filter.mp hn).1
    have T6 := T5.re (p := ps1[k].put σ2) hk1 hx2 rfl (okk1.put σ2) s6
    have P6 : Stg3 σ2.abs 2 ps1[k].cs := stg2 PP habs2
    have hk2 : k < (ps1.set k (ps1[k].put σ2)).length := by rw [List.length_set]; exact hk1
    have e2 := at_set hk2
    have PQ : Stg3 (ps1.set k (ps1[k].put σ2))[k].σ.abs 2 (ps1.set k (ps1[k].put σ2))[k].cs := by rw [e2]; exact P6
    have ecs : (ps1.set k (ps1[k].put σ2))[k].cs = ps1[k].cs := by rw [e2]; rfl
    refine l_cons <| e_call <| e_blt (hF.glo rfl) (D.nb rfl) D.tuple (fn_ok <| cw_plain (.type _) <| l_cons <| e_sub <| e_sub <| e_call <| e_glob (hF.glo rfl) (D.nb rfl) (fun _ => .cst' _) (fn_ok <| cw_plain (D.kp rfl) <| l_cons <| e_sub <| e_name n3 <| e_name nk <| gi_at (.own T6.b) (by exact o244 k2) (ref_at (·.b) hk2) <| l_cons <| e_int <| l_nil <| WCode.call <|
      due_spec (stage := 1) D (Nat.lt_of_lt_of_le lv (by decide)) (hF.hh hh) (by decide) (T6.calls hk2) fun ms ld hd as' H7 hp hs e7 due => ?_))
    rw [keys_are hp hs, ecs] at due
    obtain ⟨lr, dh1, dh2⟩ : ∃ lr, H7 hd = some (.list [.ref lr, .int 0, .int 0]) ∧ H7 lr = some (.list (cds (rdyOf ps1[k].cs (firsts ps1[k].cs.flatten)))) := by
      rcases due.head with ⟨q, _⟩ | ⟨_, r, f1, f2⟩ | ⟨q, _⟩
      · cases q
      · exact ⟨r, f1, f2⟩
      · cases q
    refine e_int <| gi_list (.own due.top) <| o_item (.own due.top) (by decide) (by decide) (x := .ref hd) rfl <| e_int <| gi_list (.own dh1) <| o_item (.own dh1) (by decide) (by decide) (x := .ref lr) rfl <| l_nil <| c_tupleof (.own dh2) (by rw [cds_length]; exact o372 r7) <| l_nil <| WCode.call <|
      law_same D 4 ζ _ _ _ _ _ _ _ (by exact o246 lv) (hF.hh hh) (same_tuples _ (by exact o251 r7)) fun H8 e8 => tr_bool (s_nil ?_)
    have T8 := T6.ext (e7.trans e8)
    refine s_cons <| s_refused D hF lv hh T8 hk2 PQ (by decide) (by decide) n2 n3 nk (hs := rfl) fun H9 e9 => s_nil (h (ps1[k].put σ2) _ _ ?_ n2 n3)
    have T9 := T8.ext e9
    generalize ps1[k].put σ2 = q at T9 ⊢
    rw [← hps, List.set_set] at T9
    exact T9
end
end Mine
end
section
open PySem PySem.W PySem.Calls PyProof.Rows PySem.SeqAt
set_option linter.unusedSectionVars false
set_option linter.unusedVariables false
set_option maxRecDepth 100000
set_option maxHeartbeats 4000000
namespace Mine
theorem perm_cnt {α : Type} {l l' : List α} (h : ∀ [DecidableEq α] (a : α), l.count a = l'.count a) : l.Perm l' := by
  classical
  exact List.perm_iff_count.mpr fun a => h a
noncomputable def tot (ps : List Bk) : Nat := (ps.map (·.cs.length)).sum
theorem tot_ge : ∀ {ps : List Bk} {p : Bk}, p ∈ ps → p.cs.length ≤ tot ps
  | q :: ps, p, h => by
    unfold tot
    rw [List.map_cons, List.sum_cons]
    rcases List.mem_cons.mp h with h | h
    · rw [h]; exact o43
    · have := tot_ge h
      unfold tot at this
      exact o443 this
theorem tot_set : ∀ {ps : List Bk} {k : Nat} (hk : k < ps.length) {p : Bk}, p.cs.length = ps[k].cs.length + 1 → tot (ps.set k p) = tot ps + 1
  | q :: ps, 0, _, p, h => by
    have h : p.cs.length = q.cs.length + 1 := h
    unfold tot
    rw [List.set_cons_zero, List.map_cons, List.map_cons, List.sum_cons, List.sum_cons]
    exact o444 h
  | q :: ps, k + 1, hk, p, h => by
    have h : p.cs.length = (ps[k]'(by simpa using hk)).cs.length + 1 := h
    have := tot_set (ps := ps) (k := k) (by simpa using hk) h
    unfold tot at *
    rw [List.set_cons_succ, List.map_cons, List.map_cons, List.sum_cons, List.sum_cons]
    exact o445 this
variable [ζ : Dead]
theorem Two.addC {ps : List Bk} {ln ls lb : Addr} {C : List (Addr × O)} {H : AH} (T : Two ps ln ls lb C H) {a : Addr} {o : O} (n : H a = none) : Two ps ln ls lb ((a, o) :: C) (put H a o) := by
  refine ⟨T.two, ?_, T.ok⟩
  refine (T.sat.new n).perm ?_
  exact perm_cnt fun x => by simp only [List.count_cons, List.count_append]; exact o256
theorem nums_app1 (ns : List Int) (n : Int) : nums ns ++ [.int n] = nums (ns ++ [n]) := by unfold nums; simp
section
variable {g : G} {F F' : Fm} {m : Loc} {H : AH} {X : Value → List V → Loc → AH → Prop} {Q : Fl → Loc → AH → Prop} {B : List (Addr × O)}
theorem law_a (D : Gd g) (hF : FrameOf F' F (lawS g.w.params)) (lv : F'.lvl < 40) (hh : F.A.handled = none) {sa : Addr} {ns : List Int} (LS : LB g sa ns) (hn : ns.length ≤ 63) (hm : m "script" = some (.ref sa))
    (h : ∀ ps ln ls lb C m H, Two ps ln ls lb C H → (∀ p ∈ ps, p.σ.abs = tellAll ps0 p.cs) → m "sorters" = some (.ref ls) → m "books" = some (.ref lb) → WS g F' (execs ((lawB g.w.params).drop 4) F'.env) m H Q X) : WS g F' (execs (lawB g.w.params) F'.env) m (fun _ => none) Q X := by
  refine s_cons <| s_assign (hF.cel rfl) rfl <| e_call <| e_glob (hF.glo rfl) (D.nb rfl) (fun _ => .cst' _) (fn_ok <| cw_plain (D.kp rfl) <| l_nil <| WCode.call <| law_names_spec D (Nat.lt_of_lt_of_le lv (by decide)) fun ln hln => ?_)
  have s0 : Sat (put (fun _ => none) ln (.list (nms ten))) [(ln, .list (nms ten))] := (Sat.nil _).new hln
  refine s_cons <| s_assign (hF.loc rfl) rfl <| e_list <| l_cons <| e_call <| e_glob (hF.glo rfl) (D.nb rfl) (fun _ => .cst' _) (fn_ok <| cw_plain (D.kp rfl) <| l_nil <| WCode.call <| new_srt_spec D (Nat.lt_of_lt_of_le lv (by decide)) s0 fun σ0 H1 a0 s1 =>
    l_cons <| e_call <| e_glob (hF.glo rfl) (D.nb rfl) (fun _ => .cst' _) (fn_ok <| cw_plain (D.kp rfl) <| l_nil <| WCode.call <| new_srt_spec D (Nat.lt_of_lt_of_le lv (by decide)) s1 fun σ1 H2 a1 s2 => l_nil ⟨Nat.le_of_ble_eq_true rfl, fun ls hls => ?_⟩))
  have s3 := s2.new (o := .list [.ref σ0.x, .ref σ1.x]) hls
  refine s_cons <| s_assign (hF.loc rfl) rfl <| e_list <| l_cons <| e_list <| l_nil ⟨Nat.le_of_ble_eq_true rfl, fun b0 hb0 => l_cons <| e_list <| l_nil ⟨Nat.le_of_ble_eq_true rfl, fun b1 hb1 => l_nil ⟨Nat.le_of_ble_eq_true rfl, fun lb hlb => ?_⟩⟩⟩
  have s4 := s3.new (o := .list []) hb0
  have s5 := s4.new (o := .list []) hb1
  have s6 := s5.new (o := .list [.ref b0, .ref b1]) hlb
  generalize put (put (put (put H2 ls _) b0 _) b1 _) lb _ = H6 at s6
  have T : Two [⟨σ0, b0, [], []⟩, ⟨σ1, b1, [], []⟩] ln ls lb [] H6 := by
    refine ⟨rfl, s6.perm ?_, fun p hp => ?_⟩
    · unfold bkLay Bk.own
      exact perm_cnt fun x => by simp [List.count_cons, List.count_append, refs]; exact o257
    · rcases List.mem_cons.mp hp with q | q
      · subst q; exact ⟨rfl, (fun c hc => by cases hc), (fun c hc => by cases hc), Nat.zero_le _⟩
      · rw [List.mem_singleton.mp q]; exact ⟨rfl, (fun c hc => by cases hc), (fun c hc => by cases hc), Nat.zero_le _⟩
  have A : ∀ p ∈ ([⟨σ0, b0, [], []⟩, ⟨σ1, b1, [], []⟩] : List Bk), p.σ.abs = tellAll ps0 p.cs := fun p hp => by
    rcases List.mem_cons.mp hp with q | q
    · subst q; exact a0
    · rw [List.mem_singleton.mp q]; exact a1
  have t0 : tot ([⟨σ0, b0, [], []⟩, ⟨σ1, b1, [], []⟩] : List Bk) = 0 := rfl
  generalize ([⟨σ0, b0, [], []⟩, ⟨σ1, b1, [], []⟩] : List Bk) = ps at T A t0
  refine s_cons <| s_forEnum hF.st (hF.hh hh) rfl (hF.glo rfl) (D.nb rfl) D.enum (fun _ => rfl) <| l_cons <| e_bin <| e_name (by exact hm) <| e_list <| l_cons <| e_int <| l_nil ⟨Nat.le_of_ble_eq_true rfl, fun c1 hc1 => o_concatB LS (.own (put_self ..)) (by simp; exact o258 hn) fun le hle => l_nil ?_⟩
  rw [nums_app1]
  have T1 := (T.ext ((Ext.refl H6).put (o := .list [.int 202138]) hc1)).addC (o := .list (nums (ns ++ [202138]))) hle
  refine ⟨le, nums (ns ++ [202138]), fun i m' H' => ∃ ps, Two ps ln ls lb [(le, .list (nums (ns ++ [202138])))] H' ∧ (∀ p ∈ ps, p.σ.abs = tellAll ps0 p.cs) ∧ tot ps = i ∧ m' "names" = some (.ref ln) ∧ m' "sorters" = some (.ref ls) ∧ m' "books" = some (.ref lb), rfl,
    fun i m' H' qq1 => qq1.elim fun ps qq2 => qq2.elim fun T _ => T.sat.get (List.mem_append_right _ (List.mem_append_right _ (.head _))), ⟨ps, T1, A, t0, rfl, rfl, rfl⟩, fun i m' H' hi qq3 => qq3.elim fun ps qq4 => qq4.elim fun T qq5 => qq5.elim fun A qq6 => qq6.elim fun t qq7 => qq7.elim fun n1 qq8 => qq8.elim fun n2 n3 => ?_, fun m' H' qq9 => qq9.elim fun ps qq10 => qq10.elim fun T qq11 => qq11.elim fun A qq12 => qq12.elim fun t qq13 => qq13.elim fun n1 qq14 => qq14.elim fun n2 n3 => s_nil (h ps ln ls lb _ _ _ T A n2 n3)⟩
  rw [ints_length] at hi
  rw [nums_get hi]
  have hi' : i < ns.length + 1 := by simpa using hi
  refine a_tuple (hF.hh hh) rfl <| a_name (hF.loc rfl) <| a_name (hF.loc rfl) ?_
  exact turn_1 D hF lv hh T A (fun p hp => by have := tot_ge hp; exact o259 t this hn hi') (by exact n1) (by exact n2) (by exact n3) (i := i) (x := (ns ++ [202138])[i]) (by exact o260 hn hi') rfl rfl fun k hk p m2 H2 T2 e A2 q1 q2 q3 => ⟨ps.set k p, T2, A2, by rw [tot_set hk e, t], q1, q2, q3⟩
end
end Mine
end
section
open PySem PySem.W PySem.Calls PyProof.Rows PySem.SeqAt
set_option linter.unusedSectionVars false
set_option linter.unusedVariables false
set_option maxRecDepth 100000
set_option maxHeartbeats 4000000
namespace Mine
variable [ζ : Dead]
section
variable {g : G} {F F' : Fm} {m : Loc} {H : AH} {X : Value → List V → Loc → AH → Prop} {Q : Fl → Loc → AH → Prop} {B : List (Addr × O)}
theorem law_b (D : Gd g) (hF : FrameOf F' F (lawS g.w.params)) (lv : F'.lvl < 40) (hh : F.A.handled = none) {ps : List Bk} {ln ls lb : Addr} {C : List (Addr × O)} (T : Two ps ln ls lb C H) (A : ∀ p ∈ ps, p.σ.abs = tellAll ps0 p.cs)
    (m2 : m "sorters" = some (.ref ls)) (m3 : m "books" = some (.ref lb)) (h : ∀ m H, Q (.ret (.bool true)) m H) : WS g F' (execs ((lawB g.w.params).drop 4) F'.env) m H Q X := by
  refine s_cons <| s_for (fun _ => rfl) <| e_call <| e_blt (hF.glo rfl) (D.nb rfl) D.range (fn_ok <| cw_plain (.type _) <| l_cons <| e_int <| l_nil <| c_range1 <| for_any (it_rangeN (n := 2) rfl (by decide))
    (fun i m' H' => ∃ ps, Two ps ln ls lb C H' ∧ (∀ j (hj : j < ps.length), i ≤ j → Stg3 ps[j].σ.abs 0 ps[j].cs ∧ ps[j].σ.rd = none) ∧ m' "sorters" = some (.ref ls) ∧ m' "books" = some (.ref lb)) (hF.hh hh) hF.st (fun _ _ _ _ => trivial)
    ⟨ps, T, fun j hj _ => ?_, m2, m3⟩ (fun i m' H' hi qq1 => qq1.elim fun ps qq2 => qq2.elim fun T qq3 => qq3.elim fun A qq4 => qq4.elim fun n2 n3 => ?_) (fun m' H' _ => s_nil (s_cons <| s_ret <| e_bool <| h _ _)))
  · have hm := List.getElem_mem hj
    refine ⟨?_, rdNone (A _ hm)⟩
    rw [A _ hm]
    exact stg0 (T.ok _ hm).ne
  · have hi' : i < ps.length := by rw [T.two]; exact hi
    obtain ⟨a1, a2⟩ := A i hi' (Nat.le_refl _)
    refine a_name (hF.loc rfl) ?_
    refine turn_2 D hF lv hh T hi' a1 a2 (by exact n2) (by exact n3) rfl fun p m2 H2 T2 q2 q3 => ⟨ps.set i p, T2, fun j hj hij => ?_, q2, q3⟩
    have hj' : j < ps.length := by rw [List.length_set] at hj; exact hj
    have e : (ps.set i p)[j] = ps[j] := List.getElem_set_ne (by exact o261 hij) hj
    rw [e]
    exact A j hj' (by exact o35 hij)
theorem law_top {A : Around} {s : Shared} (hz : ζ.bad = []) (D : Gd g) {Q : Value → Shared → Prop} {E : Value → Shared → Prop} {sa : Addr} {ns : List Int} (hB : g.B = s.heap) (hgens : s.gens = #[]) (hos : s.os = g.os) (hA : A.frames = some []) (hg' : A.guards = some []) (hd : A.depth ≤ 310) (hu : A.units ≤ 100) (hh : A.handled = none)
    (LS : LB g sa ns) (hn : ns.length ≤ 63)
    (hq : ∀ s', (∀ b o, s.heap.get? b = some o → s'.heap.get? b = some o) → s'.gens = #[] → s'.os = g.os → Q (.bool true) s') : wpAny (model g.prog g.w) A (call (.ref 175) [.ref sa]) Q E s := by
  refine c_topF (bs := [("script", .ref sa)]) (body := lawB g.w.params) hz hB hgens hos hA hg' hd hu (D.lk rfl) (D.cd rfl) rfl rfl rfl rfl rfl rfl rfl (fun v => [("script", v)]) (fun v S => by rw [D.K]; rfl) ⟨_, [], rfl, .ref' _, rfl⟩ (fun x hx => ?_) (fun x hx => ?_) (fun F' F hl hFA hF => ?_) hq
  · rw [List.mem_singleton] at hx; subst hx; exact .inl rfl
  · rw [List.mem_singleton] at hx; subst hx; exact ⟨_, List.mem_singleton.mpr rfl, rfl⟩
  have hh' : F.A.handled = none := by rw [hFA]; exact hh
  have lv : F'.lvl < 40 := by rw [hF.lvl, hl]; decide
  have hF' : FrameOf F' F (lawS g.w.params) := hF
  have hm : (bindAbs [("script", .ref sa)] fun _ => none) "script" = some (.ref sa) := rfl
  have eb := @law_a ζ g F F' (bindAbs [("script", .ref sa)] fun _ => none) (fun _ _ _ _ => False) (fun fl _ _ => fl.val = .bool true) D hF' lv hh' sa ns LS hn hm fun ps ln ls lb C m H T A m2 m3 =>
    @law_b ζ g F F' m H (fun _ _ _ _ => False) (fun fl _ _ => fl.val = .bool true) D hF' lv hh' ps ln ls lb C T A m2 m3 fun m H => rfl
  with_reducible exact eb
end
end Mine
end
section
open PySem PySem.W PyProof.Rows PySem.Calls
set_option maxRecDepth 100000
set_option maxHeartbeats 8000000
namespace Mine
theorem bt {mb : Str → Option Value} {x : Str} {v : Value} (h : ∀ x : Str, x ≠ "__name__" → mb x = bootBuiltins x) (hx : x ≠ "__name__") (e : bootBuiltins x = some v) : mb x = some v := (h x hx).trans e
end Mine
theorem PySem.Challenge.cw_dv0015_03_holds : PySem.Challenge.rw_dv0015_03.Holds := by
  refine holds_law Mine.said fun sd => ?_
  refine holds_open (q := Mine.qv) (loose := ["_NodeInfo"]) (Xt := Mine.xt) (XP := XL Mine.qv []) (Yf := Mine.hk.obs) (Ya := Mine.hk.val) (YP := Mine.hk.says) (N := 2556) Mine.left Mine.hk.of Mine.hk.keeps (fun s e => xl_of s (Bool.and_eq_true_iff.mp e).1) XL.keeps (by rfl) (by rfl) (by rfl) (fun s e => recFacts_of (Bool.and_eq_true_iff.mp e).2) (by rfl) sd (by decide +kernel) ⟨rfl, rfl, rfl, rfl, rfl, by decide +kernel⟩ ?hw ?hc
  case hw => w_witness2
  intro w s₀ s₁ mg mb G Y fa o pm cd doc dV kV ho hd' hcd hD hmg hg args vals as hpre hlay hrd hwl hlo
  have KX := kIn_of Y
  refine Ground.open G ?_
  intro T B D TE TW
  wrow_args hpre hlay hrd hwl hlo
  have e := mg_of KX T.g (n := "law") (v := .ref 175) rfl
  rw [hmg] at e
  cases e
  clear hd' hcd hD ho Y TE TW B D hmg
  have seer := T.seer (by decide +kernel)
  have sysm : ∃ o, s₁.heap.get? sysModules = some o := let ⟨_, ⟨o, _, _, e, _⟩, _⟩ := seer.mods; ⟨o, e⟩
  let g : Mine.G := { prog := PySem.Challenge.rw_dv0015_03.row.prog, w := w, B := s₁.heap, K := Mine.kx.heap_1 w.params, mg := mg, mb := mb, os := s₁.os, kin := KX, glob := T.g, blt := T.b, nolim := T.nolimit, sysm := sysm }
  have D : Mine.Gd g := ⟨rfl, Mine.bt T.builtins (by decide) (by decide +kernel), Mine.bt T.builtins (by decide) (by decide +kernel), Mine.bt T.builtins (by decide) (by decide +kernel), Mine.bt T.builtins (by decide) (by decide +kernel), Mine.bt T.builtins (by decide) (by decide +kernel), Mine.bt T.builtins (by decide) (by decide +kernel), Mine.bt T.builtins (by decide) (by decide +kernel), Mine.bt T.builtins (by decide) (by decide +kernel), Mine.bt T.builtins (by decide) (by decide +kernel), Mine.bt T.builtins (by decide) (by decide +kernel), Mine.bt T.builtins (by decide) (by decide +kernel), Mine.bt T.builtins (by decide) (by decide +kernel), Mine.bt T.builtins (by decide) (by decide +kernel), Mine.bt T.builtins (by decide) (by decide +kernel), Mine.bt T.builtins (by decide) (by decide +kernel), Mine.bt T.builtins (by decide) (by decide +kernel), own_of_in KX (topRead_of T) rfl (by kernel_rfl)⟩
  rename_i ns _ _ _ _ _ _ _ sa vs _ hL ra w1 r0 hI hr hc _
  refine Mine.law_top (ζ := ⟨[]⟩) rfl (g := g) (A := callerA) (s := s₁) (sa := sa) (ns := ns) D rfl hg rfl rfl rfl (by decide) (by decide) rfl ⟨vs, hL, hI⟩ (by exact Mine.o376 hc) fun s' keep hg' ho' => ?_
  refine GoodW.toG ⟨.inl ⟨.bool true, _, _, rfl, ?_, .bool true, ?_, ?_⟩, keep, ho', hg'⟩
  · exact raisesW_false (by wrow_none_raised)
  · wrow_post
  · exact unshared_nil
end
