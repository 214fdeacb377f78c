import Derived.Test.Qxb6619216aAt
namespace Go.Proofs.Qxb6619216a
open Go.RowKit

set_option maxHeartbeats 1000000 in
theorem probe_walk (a r p : Bool) (w : World) :
    Calls Try.prog 5 #[.bool a, .bool r, .bool p] w fun e w' => e = .returned (.bool true) ∧ Below w.heap.size w w' := by
  have K : Hid (keep limited (refs a r p false) = refs a r p true) := keep_probe a r p
  have C1 : Hid (cnt (refs a r p false) unauth = if a && !p then 1 else 0) := cnt_u a r p false
  have C2 : Hid (cnt (refs a r p false) limited = if r && !false then 1 else 0) := cnt_r a r p false
  have N1 : Hid ((refs a r p false).length = (if a && !p then 1 else 0) + if r && !false then 1 else 0) := refs_len a r p false
  have N2 : Hid ((refs a r p true).length = (if a && !p then 1 else 0) + if r && !true then 1 else 0) := refs_len a r p true
  obtain ⟨L1, h1⟩ : ∃ L, L = refs a r p false := ⟨_, rfl⟩
  obtain ⟨L2, h2⟩ : ∃ L, L = refs a r p true := ⟨_, rfl⟩
  have Z1 : Hid (∀ n, L1.length = n → ∀ w, Calls Try.prog 6 #[.bool a, .bool r, .bool p, .bool false] w fun e w' => ∃ ao g c, e = .returned (.slice ao n c) ∧ Sees w' ao g L1 ∧ Below w.heap.size w w') := fun n hn w => zz_at a r p false L1 n h1.symm hn w
  have Z2 : Hid (∀ n, L2.length = n → ∀ w, Calls Try.prog 6 #[.bool a, .bool r, .bool p, .bool true] w fun e w' => ∃ ao g c, e = .returned (.slice ao n c) ∧ Sees w' ao g L2 ∧ Below w.heap.size w w') := fun n hn w => zz_at a r p true L2 n h2.symm hn w
  rw [← h1, ← h2] at K
  rw [← h1] at C1 C2 N1
  rw [← h2] at N2
  clear h1 h2
  cases a <;> cases r <;> cases p
  all_goals
    go_enter Try.func5, Try.ntmps5
    go_wp2_with fail
    refine (Z1.out _ N1.out _).mono ?_
    rintro e w1 ⟨ao, g, c, rfl, hs1, hb1⟩
    go_wp2_with fail
    refine (Z2.out _ N2.out _).mono ?_
    rintro e w2 ⟨bo, g2, c2, rfl, hs2, hb2⟩
    have hs1' := hs1.later hb2
    go_wp2_with fail
    refine (filtered_at ao g c L1 bo g2 c2 L2 limited _ _ _ N1.out (by decide) K.out N2.out hs1' hs2).mono ?_
    rintro e w3 ⟨rfl, n3, hw3⟩
    have hb3 : Below w2.heap.size w2 w3 := by rw [hw3]; exact below_drewN (Below.refl _ _) _
    have hs3 : Sees w3 ao g L1 := hs1'.later hb3
    clear hw3
    go_wp2_with fail
    refine (count_at ao g c L1 limited _ _ _ N1.out (by decide) (by rw [C2.out]) hs3).mono ?_
    rintro e w4 ⟨rfl, rfl⟩
    go_wp2_with fail
    refine (one_at _ _ rfl _).mono ?_
    rintro e w5 ⟨rfl, rfl⟩
    go_wp2_with fail
    refine (count_at ao g c L1 unauth _ _ _ N1.out (by decide) (by rw [C1.out]) hs3).mono ?_
    rintro e w6 ⟨rfl, rfl⟩
    go_wp2_with fail
    refine (one_at _ _ rfl _).mono ?_
    rintro e w7 ⟨rfl, rfl⟩
    go_wp2_with fail
    refine (one_at _ _ rfl _).mono ?_
    rintro e w8 ⟨rfl, rfl⟩
    go_wp2_with fail
    refine (one_at _ _ rfl _).mono ?_
    rintro e w9 ⟨rfl, rfl⟩
    go_wp2_with fail
    go_ret
    exact ⟨rfl, hb1.trans ((hb2.trans (hb3.mono hb2.size)).mono hb1.size)⟩
end Go.Proofs.Qxb6619216a
