/-
  Seat b6617319aD: 'Rows.FnAppendStatsChangesOnlyTheChangedCountersNumberCardSaid': the row, then the tied card.
-/
import Derived.Test.Qxb6617319aDoorOpen
import Derived.Test.Qxb6617319aDoorLawTwo
import Derived.Test.Qxb6617319aDoorTie
import Derived.Test.Qxb6617319aDoorCards
import Derived.SevenTiedAt
namespace Go.Proofs.Qxb6617319aDoor.two
open Go.ChangeShapes Go.WideShapes Go.ChangeAt Go.RowKit

set_option maxRecDepth 100000 in
set_option maxHeartbeats 2000000 in
theorem walk (ao : Option Addr) (n k : Nat) (bs : List UInt8) (xs : Nat → Nat) (j : Int) (v : Nat) (hv : v < 18446744073709551616) (hx : ∀ i, xs i < 18446744073709551616) (w : World) (hm : n ≤ maxLen) (hc : Came w ao n k bs) (htab : Tab w) (hg : glob < w.heap.size) :
    Calls Tryd.prog 6 #[.slice ao n k, st xs, .int .i64 j, .int .u64 v] w fun e w' => e = .returned (.bool true) ∧ Below w.heap.size w w' := by
  unfold maxLen at hm
  by_cases h1 : 1048576 < n
  · clear hc htab hx hv
    go_enter Tryd.func6, Tryd.ntmps6
    go_wp2_with fail
    refine (bytes23_no xs ao n k j v h1 _).mono ?_
    rintro e w1 ⟨rfl, hb1⟩
    go_wp2_with fail
    go_ret
    exact ⟨rfl, ((Below.refl _ _).alloc (Nat.le_refl _) _).trans (hb1.mono (by simp))⟩
  by_cases h2 : j < 0
  · clear hc htab hx hv
    go_enter Tryd.func6, Tryd.ntmps6
    go_wp2_with fail
    refine (bytes23_yes xs ao n k j v (by omega) _).mono ?_
    rintro e w1 ⟨rfl, hb1⟩
    go_wp2_with fail
    go_ret
    exact ⟨rfl, ((Below.refl _ _).alloc (Nat.le_refl _) _).trans (hb1.mono (by simp))⟩
  by_cases h3 : 4 < j
  · clear hc htab hx hv
    go_enter Tryd.func6, Tryd.ntmps6
    go_wp2_with fail
    refine (bytes23_yes xs ao n k j v (by omega) _).mono ?_
    rintro e w1 ⟨rfl, hb1⟩
    go_wp2_with fail
    go_ret
    exact ⟨rfl, ((Below.refl _ _).alloc (Nat.le_refl _) _).trans (hb1.mono (by simp))⟩
  obtain ⟨jn, rfl⟩ := Int.eq_ofNat_of_zero_le (show 0 ≤ j by omega)
  exact law_two ao n k bs xs jn v (by omega) hv hx w (by omega) hc htab hg

set_option maxRecDepth 100000 in
theorem lifted (os : Os) (started : os.Started) (H : Type) (enc : TypeId × Value → H) :
    ReturnsInHanded {} Tryd.checked os 6 .any (fun w args => (Rows.fnAppendStatsChangesOnlyTheChangedCountersNumberSpec.pre enc Tryd.prog Tryd.f6 [] false w args ∧ laidMetH Tryd.prog laid3 w) ∧ sizedMet enc Tryd.prog Tryd.f6 (OpenSpec.ofChange Rows.fnAppendStatsChangesOnlyTheChangedCountersNumberSpec) false w args)
      (Rows.fnAppendStatsChangesOnlyTheChangedCountersNumberSpec.post enc Tryd.prog Tryd.f6 false true false false) := by
  refine returnsInHanded_of_change_and (C := Tryd.checked) (X := fun w _ => laidMetH Tryd.prog laid3 w) (fun _ _ _ hh h => h.of_heap hh) own started (by kernel_rfl) Tryd.func6
    (ChangeSpec.witness_shaped (enc := enc) (C := Tryd.checked) (os := os) (X := fun w _ => laidMetH Tryd.prog laid3 w) false (World.doorLaid Tryd.prog 400 os) #[.slice none 0 0, .agg #[.int .u64 0, .int .u64 0, .int .u64 0, .int .u64 0, .int .u64 0], .int .i64 0, .int .u64 0] 8 rfl (World.shaped_of_RefB (by kernel_rfl) (by kernel_rfl)) (by kernel_rfl) (by kernel_rfl) (by kernel_rfl) (door_met os _)) ?_
  intro W base args ds gs before hval0 hW _ _ hL _
  have hval : ∀ (j : Nat) t v, Tryd.f6.params[j]? = some t → args[j]? = some v → Value.okWide Tryd.prog W .any base t v := hval0
  have hW' := hW
  obtain ⟨p, q, hA0, hV, rfl, hfz, hnd⟩ := hW
  have hA : DataW.TrodAll enc Tryd.prog W 0 (fun _ => true) true Tryd.f6.params.toList args.toList ds p := hA0
  rw [Tryd.params6] at hA hval
  obtain ⟨v0, vs0, d0, ds0, p0, q0, hargs, rfl, rfl, h0, r0⟩ := trodAll_cons hA
  obtain ⟨v1, vs1, d1, ds1, p1, q1, rfl, rfl, rfl, h1, r1⟩ := trodAll_cons r0
  obtain ⟨v2, vs2, d2, ds2, p2, q2, rfl, rfl, rfl, h2, r2⟩ := trodAll_cons r1
  obtain ⟨v3, vs3, d3, ds3, p3, q3, rfl, rfl, rfl, h3, r3⟩ := trodAll_cons r2
  obtain ⟨rfl, rfl, rfl⟩ := trodAll_nil r3
  obtain rfl : args = #[v0, v1, v2, v3] := by cases args; simp_all
  obtain ⟨rfl, rfl⟩ := trodVars_none hV
  obtain ⟨a0, len0, cap0, rfl⟩ := okWide_slice Tryd.underlying34 (hval 0 34 v0 rfl rfl)
  obtain ⟨xs, hx, rfl⟩ := open_stats (hval 1 36 v1 rfl rfl) h1
  obtain ⟨a2, rfl, rfl, rfl, w2⟩ := open_int Tryd.underlying3 (hval 2 3 v2 rfl rfl) h2
  obtain ⟨a3, rfl, rfl, rfl, w3⟩ := open_int Tryd.underlying27 (hval 3 27 v3 rfl rfl) h3
  have b3 := bounds_u64 w3
  obtain ⟨vn, rfl⟩ := Int.eq_ofNat_of_zero_le b3.1
  have k0 := h0
  have lt0 : ∀ x ∈ p0, x.block < W.heap.size := by obtain ⟨m, hm⟩ := k0; exact DataW.trod_lt m _ _ _ hm
  have k1 := h1
  have lt1 : ∀ x ∈ p1, x.block < W.heap.size := by obtain ⟨m, hm⟩ := k1; exact DataW.trod_lt m _ _ _ hm
  obtain ⟨hm, bs, hc⟩ := came_of h0
  obtain ⟨ht, hg⟩ := tab_of hL
  clear hA0 hval0
  refine (walk a0 len0 cap0 bs xs a2 vn (by omega) hx W hm hc ht hg).mono fun e W' ⟨he, bel⟩ => ?_
  subst he
  exact ⟨_, rfl, _, _, _, [], _, [], hW', trodAll_mk1 (shut_bool Tryd.underlying4 _), (trodAll_cons_mk (Below.trod laidOut (by kernel_rfl) (of_decide_eq_true (by kernel_rfl)) k0 bel lt0) (trodAll_cons_mk (Below.trod laidOut (by kernel_rfl) (of_decide_eq_true (by kernel_rfl)) k1 bel lt1) (trodAll_cons_mk (shut_int Tryd.underlying3 w2) (trodAll_cons_mk (shut_int Tryd.underlying27 w3) trodAll_mk0)))), rfl, bel.frame _, fun h => by cases h⟩

theorem row : Rows.FnAppendStatsChangesOnlyTheChangedCountersNumberSaid :=
  OpenClaim.holds_of_wide 6 Tryd.f6 rfl rfl rfl rfl rfl rfl rfl ⟨rfl, rfl, rfl, rfl, rfl⟩ rfl rfl rfl rfl rfl (by kernel_rfl) Tryd.func6 (by kernel_rfl)
    (of_decide_eq_true (by kernel_rfl)) (by unfold Func.isWrapper; first | (rw [if_pos (by decide +kernel)]; kernel_rfl) | (rw [if_neg (by decide +kernel)]; exact ⟨rfl, rfl⟩))
    (fun os started H enc _ => lifted os started H enc)

/-- THE STATEMENT: the tied card. -/
theorem proved : Rows.FnAppendStatsChangesOnlyTheChangedCountersNumberCardSaid :=
  Claim7.holds_tied_plain_at .later [] [.data, .data, .data] true (true, "934d653bbaccaa313fbbc3c78be5184df627122925f92f48f089ba9e76911ac7") false
    row (fun _ h => by cases h) (by kernel_rfl) (fun _ h => by cases h) fnAppendStatsChangesOnlyTheChangedCountersNumber_row_tie rfl ⟨rfl, rfl⟩ (by kernel_rfl) rfl
    (fun f fn hf hfn => by
      obtain rfl : f = 6 := Option.some.inj ((show Tryd.prog.funcNamed Tryd.f6.name = some 6 by kernel_rfl).symm.trans hf) |>.symm
      obtain rfl : fn = Tryd.f6 := (Option.some.inj (Tryd.func6.symm.trans hfn)).symm
      exact ⟨by kernel_rfl, fun j t ht => by
        rw [Tryd.params6] at ht
        have hm : t ∈ [34, 36, 3, 27] := by simpa using Array.mem_of_getElem? ht
        have hall : ([34, 36, 3, 27].all fun u => !Tryd.prog.wantsStandIn u) = true := by kernel_rfl
        exact (show Tryd.prog.wantsStandIn t = false by simpa using List.all_eq_true.1 hall t hm)⟩)
    (by kernel_rfl)
#print axioms proved
end Go.Proofs.Qxb6617319aDoor.two
