/-
  Seat b6619216a: the walk of FnRefusalsSplitByGuard.
-/
import Derived.Test.Qxb6619216aAt
namespace Go.Proofs.Qxb6619216a
open Go.RowKit

theorem zz_nil (a r p q : Bool) (h : refs a r p q = []) (w : World) :
    Calls Try.prog 6 #[.bool a, .bool r, .bool p, .bool q] w fun e w' => ∃ ao c, e = .returned (.slice ao 0 c) ∧ Below w.heap.size w w' :=
  (zz_at a r p q [] 0 h rfl w).mono fun _ _ ⟨ao, _, c, he, _, hb⟩ => ⟨ao, c, he, hb⟩
theorem zz_one (a r p q : Bool) (x : ByteArray) (h : refs a r p q = [x]) (w : World) :
    Calls Try.prog 6 #[.bool a, .bool r, .bool p, .bool q] w fun e w' => ∃ g c, e = .returned (.slice (some ⟨g, 0, none⟩) 1 c) ∧ w'.cell? ⟨g, 0, none⟩ = some (.string x) ∧ Below w.heap.size w w' :=
  (zz_at a r p q [x] 1 h rfl w).mono fun _ _ ⟨ao, g, c, he, hs, hb⟩ => ⟨g, c, by rw [he, hs.1 (by simp)], hs.2 0 x (by simp), hb⟩
theorem zz_two (a r p q : Bool) (x y : ByteArray) (h : refs a r p q = [x, y]) (w : World) :
    Calls Try.prog 6 #[.bool a, .bool r, .bool p, .bool q] w fun e w' => ∃ g c, e = .returned (.slice (some ⟨g, 0, none⟩) 2 c) ∧ w'.cell? ⟨g, 0, none⟩ = some (.string x) ∧ w'.cell? ⟨g, 1, none⟩ = some (.string y) ∧ Below w.heap.size w w' :=
  (zz_at a r p q [x, y] 2 h rfl w).mono fun _ _ ⟨ao, g, c, he, hs, hb⟩ => ⟨g, c, by rw [he, hs.1 (by simp)], hs.2 0 x (by simp), hs.2 1 y (by simp), hb⟩

set_option maxHeartbeats 1000000 in
theorem split_tt (w : World) :
    Calls Try.prog 3 #[.bool true, .bool true, .bool false, .bool false] w fun e w' => e = .returned (.bool true) ∧ Below w.heap.size w w' := by
  go_enter Try.func3, Try.ntmps3
  go_wp2_with fail
  refine (zz_two true true false false unauth limited rfl _).mono ?_
  rintro e w1 ⟨g1, c1, rfl, k0, k1, hb1⟩
  go_wp2_with fail
  refine (zz_one true false false false unauth rfl _).mono ?_
  rintro e w2 ⟨g2, c2, rfl, m0, hb2⟩
  go_wp2_with fail
  refine (zz_one false true false false limited rfl _).mono ?_
  rintro e w3 ⟨g3, c3, rfl, n0, hb3⟩
  have hk0 := cell_later hb3 (cell_later hb2 k0)
  have hk1 := cell_later hb3 (cell_later hb2 k1)
  have hm0 := cell_later hb3 m0
  clear k0 k1 m0
  have hb : Below w.heap.size w w3 := hb1.trans ((hb2.trans (hb3.mono hb2.size)).mono hb1.size)
  clear hb1 hb2 hb3
  go_wp2
  refine wp_loop_rounds 2 ?_
  rw [rounds_succ]
  go_wp2
  go_quiet (fail)
  go_wp2
  rw [rounds_succ]
  go_wp2
  refine wp_loop_rounds 2 ?_
  rw [rounds_succ]
  go_wp2
  go_quiet (fail)
  go_wp2
  rw [rounds_succ]
  go_wp2_with fail
  refine (only_one g2 c2 unauth _ (by exact hm0)).mono ?_
  rintro e w4 ⟨rfl, hw4⟩
  have hn4 : w4.cell? ⟨g3, 0, none⟩ = some (.string limited) := by rw [hw4]; exact n0
  have hb4 : Below w.heap.size w w4 := by rw [hw4]; exact below_drewN hb _
  clear hw4
  go_wp2_with fail
  refine (only_one g3 c3 limited _ hn4).mono ?_
  rintro e w5 ⟨rfl, rfl⟩
  go_wp2_with fail
  go_ret
  exact ⟨rfl, hb4⟩

set_option maxHeartbeats 1000000 in
theorem split_tf (r q : Bool) (h : (r && !q) = false) (w : World) :
    Calls Try.prog 3 #[.bool true, .bool r, .bool false, .bool q] w fun e w' => e = .returned (.bool true) ∧ Below w.heap.size w w' := by
  cases r <;> cases q <;> simp at h
  all_goals
    go_enter Try.func3, Try.ntmps3
    go_wp2_with fail
    refine (zz_one _ _ _ _ unauth rfl _).mono ?_
    rintro e w1 ⟨g1, c1, rfl, k0, hb1⟩
    go_wp2_with fail
    refine (zz_one _ _ _ _ unauth rfl _).mono ?_
    rintro e w2 ⟨g2, c2, rfl, m0, hb2⟩
    go_wp2_with fail
    refine (zz_nil _ _ _ _ rfl _).mono ?_
    rintro e w3 ⟨ao3, c3, rfl, hb3⟩
    have hk0 := cell_later hb3 (cell_later hb2 k0)
    have hm0 := cell_later hb3 m0
    clear k0 m0
    have hb : Below w.heap.size w w3 := hb1.trans ((hb2.trans (hb3.mono hb2.size)).mono hb1.size)
    clear hb1 hb2 hb3
    go_wp2
    refine wp_loop_rounds 2 ?_
    rw [rounds_succ]
    go_wp2
    go_quiet (fail)
    go_wp2
    rw [rounds_succ]
    go_wp2
    refine wp_loop_rounds 1 ?_
    rw [rounds_succ]
    go_wp2_with fail
    refine (only_one g2 c2 unauth _ (by exact hm0)).mono ?_
    rintro e w4 ⟨rfl, hw4⟩
    have hb4 : Below w.heap.size w w4 := by rw [hw4]; exact below_drewN hb _
    clear hw4
    go_wp2_with fail
    refine (only_none ao3 c3 limited _).mono ?_
    rintro e w5 ⟨rfl, rfl⟩
    go_wp2_with fail
    go_ret
    exact ⟨rfl, hb4⟩

set_option maxHeartbeats 1000000 in
theorem split_ft (a p : Bool) (h : (a && !p) = false) (w : World) :
    Calls Try.prog 3 #[.bool a, .bool true, .bool p, .bool false] w fun e w' => e = .returned (.bool true) ∧ Below w.heap.size w w' := by
  cases a <;> cases p <;> simp at h
  all_goals
    go_enter Try.func3, Try.ntmps3
    go_wp2_with fail
    refine (zz_one _ _ _ _ limited rfl _).mono ?_
    rintro e w1 ⟨g1, c1, rfl, k0, hb1⟩
    go_wp2_with fail
    refine (zz_nil _ _ _ _ rfl _).mono ?_
    rintro e w2 ⟨ao2, c2, rfl, hb2⟩
    go_wp2_with fail
    refine (zz_one _ _ _ _ limited rfl _).mono ?_
    rintro e w3 ⟨g3, c3, rfl, n0, hb3⟩
    have hk0 := cell_later hb3 (cell_later hb2 k0)
    clear k0
    have hb : Below w.heap.size w w3 := hb1.trans ((hb2.trans (hb3.mono hb2.size)).mono hb1.size)
    clear hb1 hb2 hb3
    go_wp2
    refine wp_loop_rounds 1 ?_
    rw [rounds_succ]
    go_wp2
    refine wp_loop_rounds 2 ?_
    rw [rounds_succ]
    go_wp2
    go_quiet (fail)
    go_wp2
    rw [rounds_succ]
    go_wp2_with fail
    refine (only_none ao2 c2 unauth _).mono ?_
    rintro e w4 ⟨rfl, hw4⟩
    have hn4 : w4.cell? ⟨g3, 0, none⟩ = some (.string limited) := by rw [hw4]; exact n0
    have hb4 : Below w.heap.size w w4 := by rw [hw4]; exact below_drewN hb _
    clear hw4
    go_wp2_with fail
    refine (only_one g3 c3 limited _ hn4).mono ?_
    rintro e w5 ⟨rfl, rfl⟩
    go_wp2_with fail
    go_ret
    exact ⟨rfl, hb4⟩

set_option maxHeartbeats 1000000 in
theorem split_ff (a r p q : Bool) (h : (a && !p) = false) (h2 : (r && !q) = false) (w : World) :
    Calls Try.prog 3 #[.bool a, .bool r, .bool p, .bool q] w fun e w' => e = .returned (.bool true) ∧ Below w.heap.size w w' := by
  cases a <;> cases p <;> simp at h <;> cases r <;> cases q <;> simp at h2
  all_goals
    go_enter Try.func3, Try.ntmps3
    go_wp2_with fail
    refine (zz_nil _ _ _ _ rfl _).mono ?_
    rintro e w1 ⟨ao1, c1, rfl, hb1⟩
    go_wp2_with fail
    refine (zz_nil _ _ _ _ rfl _).mono ?_
    rintro e w2 ⟨ao2, c2, rfl, hb2⟩
    go_wp2_with fail
    refine (zz_nil _ _ _ _ rfl _).mono ?_
    rintro e w3 ⟨ao3, c3, rfl, hb3⟩
    have hb : Below w.heap.size w w3 := hb1.trans ((hb2.trans (hb3.mono hb2.size)).mono hb1.size)
    clear hb1 hb2 hb3
    go_wp2
    refine wp_loop_rounds 1 ?_
    rw [rounds_succ]
    go_wp2
    refine wp_loop_rounds 1 ?_
    rw [rounds_succ]
    go_wp2_with fail
    refine (only_none ao2 c2 unauth _).mono ?_
    rintro e w4 ⟨rfl, rfl⟩
    go_wp2_with fail
    refine (only_none ao3 c3 limited _).mono ?_
    rintro e w5 ⟨rfl, rfl⟩
    go_wp2_with fail
    go_ret
    exact ⟨rfl, hb⟩

theorem split_walk (a r p q : Bool) (w : World) :
    Calls Try.prog 3 #[.bool a, .bool r, .bool p, .bool q] w fun e w' => e = .returned (.bool true) ∧ Below w.heap.size w w' := by
  cases h : (a && !p)
  · cases h2 : (r && !q)
    · exact split_ff a r p q h h2 w
    · simp at h2
      obtain ⟨rfl, rfl⟩ := h2
      exact split_ft a p h w
  · simp at h
    obtain ⟨rfl, rfl⟩ := h
    cases h2 : (r && !q)
    · exact split_tf r q h2 w
    · simp at h2
      obtain ⟨rfl, rfl⟩ := h2
      exact split_tt w
end Go.Proofs.Qxb6619216a
