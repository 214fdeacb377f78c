/-
  Seat b6619632a: the walk of FnMeasureResultDifferencesGiveBackReceipts.
-/
import Derived.Test.Qxb6619632aMeasure
import Derived.Deep.QuietTactic
import Derived.BigQuiet
import Derived.OpenShut
namespace Go.Proofs.Qxb6619632a
open Go.RowKit

theorem bytes6_yes (f l c r : Int) (ao : Option Addr) (n k : Nat) (h : n ≤ 1048576) (w : World) :
    Calls Try.prog 6 #[.int .i64 f, .int .i64 l, .slice ao n k, .int .i64 c, .int .i64 r] w fun e w' => e = .returned (.bool true) ∧ w' = w := by
  go_enter Try.func6, Try.ntmps6
  go_wp2
  go_ret
  exact ⟨rfl, rfl⟩
theorem bytes6_no (f l c r : Int) (ao : Option Addr) (n k : Nat) (h : 1048576 < n) (w : World) :
    Calls Try.prog 6 #[.int .i64 f, .int .i64 l, .slice ao n k, .int .i64 c, .int .i64 r] w fun e w' => e = .returned (.bool false) ∧ w' = w := by
  go_enter Try.func6, Try.ntmps6
  go_wp2
  go_ret
  exact ⟨rfl, rfl⟩

theorem back64 (x z : Int) (h : -9223372036854775808 ≤ z ∧ z ≤ 9223372036854775807) : wrap64 (wrap64 (x + z) - x) = z := by
  simp only [wrap64]; omega

set_option maxHeartbeats 2000000 in
theorem diff_zero (f l r : Int) (ao : Option Addr) (n k : Nat) (zs : List Int) (w : World) (hn : zs.length = n) (hl : n ≤ 131072) (hnil : ao = none → n = 0 ∧ k = 0) (hc : ∀ ad, ao = some ad → ∀ j, j < n → w.cell? (ad.add j) = some (.int .i64 (zs.getD j 0))) :
    Calls Try.prog 3 #[.int .i64 f, .int .i64 l, .slice ao n k, .int .i64 0, .int .i64 r] w fun e w' => e = .returned (.bool true) ∧ Below w.heap.size w w' := by
  have HC : Hid (∀ ad, ao = some ad → ∀ j, j < n → w.cell? (ad.add j) = some (.int .i64 (zs.getD j 0))) := hc
  have HN : Hid (ao = none → n = 0 ∧ k = 0) := hnil
  have HL : Hid (zs.length = n) := hn
  clear hc hnil hn
  go_enter Try.func3, Try.ntmps3
  go_wp2_with fail
  refine (bytes6_yes f l 0 r ao n k (by omega) _).mono ?_
  rintro e w0 ⟨rfl, rfl⟩
  go_wp2_with fail
  refine (clone_any ao n k zs _ HL.out (by omega) HN.out HC.out).mono ?_
  rintro e w1 ⟨a1, k1, rfl, hn1, hr1, hb1⟩
  have HN1 : Hid (a1 = none → n = 0 ∧ k1 = 0) := hn1
  clear hn1
  go_wp2_with fail
  refine (clone_reads a1 n k1 zs _ HL.out (by omega) HN1.out hr1).mono ?_
  rintro e w2 ⟨a2, k2, rfl, _, hr2, hb2⟩
  go_wp2_with fail
  refine (newMeasure_any f l _ 0 ⟨_, _, _, rfl⟩ _).mono ?_
  rintro e w3 ⟨rfl, rfl⟩
  go_wp2_with fail
  refine (zzresult_none w2.heap.size r _ ?_).mono ?_
  · simp
  rintro e w4 ⟨rfl, rfl⟩
  go_wp2
  go_ret
  exact ⟨by simp, (hb1.trans (hb2.mono hb1.size)).alloc (Nat.le_trans hb1.size hb2.size) _⟩

set_option maxHeartbeats 2000000 in
theorem diff_some (f l c r : Int) (ao : Option Addr) (n k : Nat) (zs : List Int) (w : World) (hc0 : (c == 0) = false) (hn : zs.length = n) (hl : n ≤ 131072) (hnil : ao = none → n = 0 ∧ k = 0) (hc : ∀ ad, ao = some ad → ∀ j, j < n → w.cell? (ad.add j) = some (.int .i64 (zs.getD j 0)))
    (hw : ∀ j, j < n → -9223372036854775808 ≤ zs.getD j 0 ∧ zs.getD j 0 ≤ 9223372036854775807) :
    Calls Try.prog 3 #[.int .i64 f, .int .i64 l, .slice ao n k, .int .i64 c, .int .i64 r] w fun e w' => e = .returned (.bool true) ∧ Below w.heap.size w w' := by
  have HC : Hid (∀ ad, ao = some ad → ∀ j, j < n → w.cell? (ad.add j) = some (.int .i64 (zs.getD j 0))) := hc
  have HN : Hid (ao = none → n = 0 ∧ k = 0) := hnil
  have HL : Hid (zs.length = n) := hn
  have HW : Hid (∀ j, j < n → -9223372036854775808 ≤ zs.getD j 0 ∧ zs.getD j 0 ≤ 9223372036854775807) := hw
  clear hc hnil hn hw
  go_enter Try.func3, Try.ntmps3
  go_wp2_with fail
  refine (bytes6_yes f l c r ao n k (by omega) _).mono ?_
  rintro e w0 ⟨rfl, rfl⟩
  go_wp2_with fail
  refine (clone_any ao n k zs _ HL.out (by omega) HN.out HC.out).mono ?_
  rintro e w1 ⟨a1, k1, rfl, hn1, hr1, hb1⟩
  have HN1 : Hid (a1 = none → n = 0 ∧ k1 = 0) := hn1
  clear hn1
  go_wp2_with fail
  refine (clone_reads a1 n k1 zs _ HL.out (by omega) HN1.out hr1).mono ?_
  rintro e w2 ⟨a2, k2, rfl, _, hr2, hb2⟩
  go_wp2_with fail
  refine (newMeasure_any f l _ c ⟨_, _, _, rfl⟩ _).mono ?_
  rintro e w3 ⟨rfl, hw3⟩
  have hb3 : Below w2.heap.size w2 w3 := by rw [hw3]; exact (Below.refl _ _).alloc (Nat.le_refl _) _
  have m2 : w3.cell? ⟨w2.heap.size, 2, none⟩ = some (.slice a1 n k1) := by rw [hw3]; simp
  have m3 : w3.cell? ⟨w2.heap.size, 3, none⟩ = some (.int .i64 c) := by rw [hw3]; simp
  have hr1' : Reads w3 a1 zs := (hr1.later hb2).later hb3
  have hr2' : Reads w3 a2 zs := hr2.later hb3
  have hb : Below w0.heap.size w0 w3 := hb1.trans ((hb2.trans (hb3.mono hb2.size)).mono hb1.size)
  clear hw3 hb3 hr1 hr2 hb1 hb2
  go_wp2_with fail
  refine (zzresult_some w2.heap.size a1 n k1 zs c r _ hc0 HL.out (by omega) m2 m3 hr1').mono ?_
  rintro e w4 ⟨d, g, rfl, hres, hb4⟩
  have hr : Reads w4 a2 zs := hr2'.later hb4
  have hb5 : Below w0.heap.size w0 w4 := hb.trans (hb4.mono hb.size)
  have d0 : w4.cell? ⟨d, 0, none⟩ = some (.slice (some ⟨g, 0, none⟩) n n) := by simp [World.cell?, hres.rd]
  have d1 : w4.cell? ⟨d, 1, none⟩ = some (.int .i64 c) := by simp [World.cell?, hres.rd]
  have d2 : w4.cell? ⟨d, 2, none⟩ = some (.int .i64 r) := by simp [World.cell?, hres.rd]
  have hg := hres.rg
  clear hb hb4 hr1' hr2' m2 m3 hres
  have hr' : n ≤ 0 ∨ ∃ b off, a2 = some ⟨b, off, none⟩ ∧ ∀ j, j < n → w4.cell? ⟨b, off + j, none⟩ = some (.int .i64 (zs.getD j 0)) := by
    rcases hr with h | ⟨b, off, h1, h2⟩
    · exact .inl (by rw [← HL.out, h]; simp)
    · exact .inr ⟨b, off, h1, fun j hj => h2 j (by rw [HL.out]; exact hj)⟩
  clear hr
  rcases hr' with hn0 | ⟨b, off, rfl, hcell⟩
  all_goals
    go_wp2
    go_loopw [13, 14] (fun s i wr => ∃ j nq : Nat, j ≤ n ∧ i = .int .i64 j ∧ s = .int .i64 (cum zs j) ∧ wr = w4.drewN nq) (fun _ i _ => n - (intOf i).toNat)
    case atStart => exact ⟨0, 0, Nat.zero_le _, rfl, rfl, rfl⟩
    case round =>
      obtain ⟨j, nq, hj, rfl, rfl, rfl⟩ := hrel
      by_cases hlt : j < n
      · first
        | (exfalso; omega)
        | (obtain ⟨z, hz⟩ : ∃ z, z = zs.getD j 0 := ⟨_, rfl⟩
           have HZ : Hid (z = zs.getD j 0) := hz
           have hcx : w4.cell? ⟨b, off + j, none⟩ = some (.int .i64 z) := by rw [hz]; exact hcell j hlt
           have hcg : w4.cell? ⟨g, j, none⟩ = some (.int .i64 (wrap64 (cum zs j + z))) := by rw [hz]; exact hg.cell hlt
           have hbk : wrap64 (wrap64 (cum zs j + z) - cum zs j) = z := back64 _ _ (by rw [hz]; exact HW.out j hlt)
           have i0 : (0 : Int) ≤ (j : Int) := by omega
           have i1 : (j : Int) < (n : Int) := by omega
           clear hz hcell hg
           go_wp2
           go_quiet (fail)
           go_wp2
           go_roundw
           case rel => exact ⟨j + 1, _, by omega, by go_num, by show _ = Value.int .i64 (wrap64 (cum zs j + zs.getD j 0)); rw [← HZ.out], rfl⟩
           case measure => simp [intOf]; omega)
      · obtain rfl : j = n := by omega
        go_wp2
        go_ret
        exact ⟨rfl, below_drewN hb5 _⟩

theorem wf_bounds {z : Int} (h : (Lit.int .i64 z).wf = true) : -9223372036854775808 ≤ z ∧ z ≤ 9223372036854775807 := by
  exact bounds_i64 h

theorem diff_walk (f l c r : Int) (ao : Option Addr) (n k : Nat) (zs : List Int) (w : World) (hm : n ≤ maxLen) (hn : zs.length = n) (hnil : ao = none → n = 0 ∧ k = 0) (hc : ∀ ad, ao = some ad → ∀ j, j < n → w.cell? (ad.add j) = some (.int .i64 (zs.getD j 0)))
    (hw : ∀ z ∈ zs, (Lit.int .i64 z).wf = true) :
    Calls Try.prog 3 #[.int .i64 f, .int .i64 l, .slice ao n k, .int .i64 c, .int .i64 r] w fun e w' => e = .returned (.bool true) ∧ Below w.heap.size w w' := by
  unfold maxLen at hm
  by_cases h1 : 1048576 < n
  · clear hn hnil hc hw
    go_enter Try.func3, Try.ntmps3
    go_wp2_with fail
    refine (bytes6_no f l c r ao n k h1 _).mono ?_
    rintro e w0 ⟨rfl, rfl⟩
    go_wp2_with fail
    go_ret
    exact ⟨rfl, Below.refl _ _⟩
  by_cases h2 : 131072 < n
  · clear hn hnil hc hw
    go_enter Try.func3, Try.ntmps3
    go_wp2_with fail
    refine (bytes6_yes f l c r ao n k (by omega) _).mono ?_
    rintro e w0 ⟨rfl, rfl⟩
    go_wp2_with fail
    go_ret
    exact ⟨rfl, Below.refl _ _⟩
  by_cases h3 : c = 0
  · subst h3
    exact diff_zero f l r ao n k zs w hn (by omega) hnil hc
  · refine diff_some f l c r ao n k zs w (by simpa using h3) hn (by omega) hnil hc fun j hj => wf_bounds (hw _ ?_)
    rw [List.getD_eq_getElem?_getD, List.getElem?_eq_getElem (by omega)]
    exact List.getElem_mem _
end Go.Proofs.Qxb6619632a
