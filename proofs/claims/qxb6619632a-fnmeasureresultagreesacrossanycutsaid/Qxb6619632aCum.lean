/-
  Seat b6619632a: the running sums of a list cut in two; the law's size guard.
-/
import Derived.Test.Qxb6619632aMeasure
namespace Go.Proofs.Qxb6619632a
open Go.RowKit

theorem getD_left (za zb : List Int) (k : Nat) (h : k < za.length) : (za ++ zb).getD k 0 = za.getD k 0 := by
  rw [List.getD_eq_getElem?_getD, List.getD_eq_getElem?_getD, List.getElem?_append_left h]
theorem getD_right (za zb : List Int) (j : Nat) : (za ++ zb).getD (za.length + j) 0 = zb.getD j 0 := by
  rw [List.getD_eq_getElem?_getD, List.getD_eq_getElem?_getD, List.getElem?_append_right (by omega)]
  congr 2; omega

theorem cum_in (zs : List Int) (k : Nat) : -9223372036854775808 ≤ cum zs k ∧ cum zs k ≤ 9223372036854775807 := by
  cases k with
  | zero => simp [cum]
  | succ k => simp only [cum, wrap64]; omega

theorem cum_left (za zb : List Int) (k : Nat) (h : k ≤ za.length) : cum (za ++ zb) k = cum za k := by
  induction k with
  | zero => rfl
  | succ k ih =>
    simp only [cum]
    rw [ih (by omega), getD_left za zb k (by omega)]

theorem wrap_in (x y : Int) (h : -9223372036854775808 ≤ x ∧ x ≤ 9223372036854775807) (hy : y = 0) : x = wrap64 (x + y) := by
  subst hy; simp only [wrap64]; omega
theorem wrap_assoc (a b z : Int) : wrap64 (wrap64 (a + b) + z) = wrap64 (a + wrap64 (b + z)) := by
  simp only [wrap64]; omega

theorem cum_right (za zb : List Int) (j : Nat) : cum (za ++ zb) (za.length + j) = wrap64 (cum za za.length + cum zb j) := by
  induction j with
  | zero => rw [Nat.add_zero, cum_left za zb _ (Nat.le_refl _)]; exact wrap_in _ _ (cum_in _ _) rfl
  | succ j ih =>
    show wrap64 (cum (za ++ zb) (za.length + j) + (za ++ zb).getD (za.length + j) 0) = wrap64 (cum za za.length + wrap64 (cum zb j + zb.getD j 0))
    rw [ih, getD_right, wrap_assoc]

theorem bytes10_yes (c r : Int) (ao bo : Option Addr) (n k m k2 : Nat) (h : n + m ≤ 1048576) (w : World) :
    Calls Try.prog 10 #[.slice ao n k, .slice bo m k2, .int .i64 c, .int .i64 r] w fun e w' => e = .returned (.bool true) ∧ w' = w := by
  go_enter Try.func10, Try.ntmps10
  go_wp2
  go_ret
  exact ⟨rfl, rfl⟩
set_option maxHeartbeats 400000 in
theorem bytes10_no (c r : Int) (ao bo : Option Addr) (n k m k2 : Nat) (h : 1048576 < n + m) (hn : n ≤ 9223372036854775807) (hm : m ≤ 9223372036854775807) (w : World) :
    Calls Try.prog 10 #[.slice ao n k, .slice bo m k2, .int .i64 c, .int .i64 r] w fun e w' => e = .returned (.bool false) ∧ w' = w := by
  by_cases h1 : 1048576 < n
  · go_enter Try.func10, Try.ntmps10
    go_wp2
    go_ret
    exact ⟨rfl, rfl⟩
  by_cases h2 : 1048576 < m
  · go_enter Try.func10, Try.ntmps10
    go_wp2
    go_ret
    exact ⟨rfl, rfl⟩
  · go_enter Try.func10, Try.ntmps10
    go_wp2
    go_ret
    exact ⟨rfl, rfl⟩
end Go.Proofs.Qxb6619632a
