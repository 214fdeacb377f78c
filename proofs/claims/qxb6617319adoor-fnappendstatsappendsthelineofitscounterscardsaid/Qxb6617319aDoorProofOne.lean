/-
  Seat b6617319aD: 'Rows.FnAppendStatsAppendsTheLineOfItsCountersCardSaid': the row, then the tied card.
-/
import Derived.Test.Qxb6617319aDoorOpen
import Derived.Test.Qxb6617319aDoorTie
import Derived.Test.Qxb6617319aDoorCards
import Derived.SevenTiedAt
namespace Go.Proofs.Qxb6617319aDoor.one
open Go.ChangeShapes Go.WideShapes Go.ChangeAt Go.RowKit

set_option maxRecDepth 100000 in
set_option maxHeartbeats 1000000 in
theorem walk (ao : Option Addr) (n k : Nat) (bs : List UInt8) (xs : Nat → Nat) (hx : ∀ i, xs i < 18446744073709551616) (w : World) (hm : n ≤ maxLen) (hc : Came w ao n k bs) (htab : Tab w) (hg : glob < w.heap.size) :
    Calls Tryd.prog 5 #[.slice ao n k, st xs] w fun e w' => e = .returned (.bool true) ∧ Below w.heap.size w w' := by
  unfold maxLen at hm
  by_cases h1 : 1048576 < n
  · clear hc htab hx
    go_enter Tryd.func5, Tryd.ntmps5
    go_wp2_with fail
    refine (bytes14_no xs ao n k h1 _).mono ?_
    rintro e w1 ⟨rfl, hb1⟩
    go_wp2_with fail
    go_ret
    exact ⟨rfl, ((Below.refl _ _).alloc (Nat.le_refl _) _).trans (hb1.mono (by simp))⟩
  · exact law_one ao n k bs xs hx w (by omega) hc htab hg

set_option maxRecDepth 100000 in
theorem lifted (os : Os) (started : os.Started) (H : Type) (enc : TypeId × Value → H) :
    ReturnsInHanded {} Tryd.checked os 5 .any (fun w args => (Rows.fnAppendStatsAppendsTheLineOfItsCountersSpec.pre enc Tryd.prog Tryd.f5 [] false w args ∧ laidMetH Tryd.prog laid3 w) ∧ sizedMet enc Tryd.prog Tryd.f5 (OpenSpec.ofChange Rows.fnAppendStatsAppendsTheLineOfItsCountersSpec) false w args)
      (Rows.fnAppendStatsAppendsTheLineOfItsCountersSpec.post enc Tryd.prog Tryd.f5 false true false false) := by
  refine returnsInHanded_of_change_and (C := Tryd.checked) (X := fun w _ => laidMetH Tryd.prog laid3 w) (fun _ _ _ hh h => h.of_heap hh) own started (by kernel_rfl) Tryd.func5
    (ChangeSpec.witness_shaped (enc := enc) (C := Tryd.checked) (os := os) (X := fun w _ => laidMetH Tryd.prog laid3 w) false (World.doorLaid Tryd.prog 400 os) #[.slice none 0 0, .agg #[.int .u64 0, .int .u64 0, .int .u64 0, .int .u64 0, .int .u64 0]] 8 rfl (World.shaped_of_RefB (by kernel_rfl) (by kernel_rfl)) (by kernel_rfl) (by kernel_rfl) (by kernel_rfl) (door_met os _)) ?_
  intro W base args ds gs before hval0 hW _ _ hL _
  have hval : ∀ (j : Nat) t v, Tryd.f5.params[j]? = some t → args[j]? = some v → Value.okWide Tryd.prog W .any base t v := hval0
  have hW' := hW
  obtain ⟨p, q, hA0, hV, rfl, hfz, hnd⟩ := hW
  have hA : DataW.TrodAll enc Tryd.prog W 0 (fun _ => true) true Tryd.f5.params.toList args.toList ds p := hA0
  rw [Tryd.params5] at hA hval
  obtain ⟨v0, vs0, d0, ds0, p0, q0, hargs, rfl, rfl, h0, r0⟩ := trodAll_cons hA
  obtain ⟨v1, vs1, d1, ds1, p1, q1, rfl, rfl, rfl, h1, r1⟩ := trodAll_cons r0
  obtain ⟨rfl, rfl, rfl⟩ := trodAll_nil r1
  obtain rfl : args = #[v0, v1] := by cases args; simp_all
  obtain ⟨rfl, rfl⟩ := trodVars_none hV
  obtain ⟨a0, len0, cap0, rfl⟩ := okWide_slice Tryd.underlying34 (hval 0 34 v0 rfl rfl)
  obtain ⟨xs, hx, rfl⟩ := open_stats (hval 1 36 v1 rfl rfl) h1
  have k0 := h0
  have lt0 : ∀ x ∈ p0, x.block < W.heap.size := by obtain ⟨m, hm⟩ := k0; exact DataW.trod_lt m _ _ _ hm
  have k1 := h1
  have lt1 : ∀ x ∈ p1, x.block < W.heap.size := by obtain ⟨m, hm⟩ := k1; exact DataW.trod_lt m _ _ _ hm
  obtain ⟨hm, bs, hc⟩ := came_of h0
  obtain ⟨ht, hg⟩ := tab_of hL
  clear hA0 hval0
  refine (walk a0 len0 cap0 bs xs hx W hm hc ht hg).mono fun e W' ⟨he, bel⟩ => ?_
  subst he
  exact ⟨_, rfl, _, _, _, [], _, [], hW', trodAll_mk1 (shut_bool Tryd.underlying4 _), (trodAll_cons_mk (Below.trod laidOut (by kernel_rfl) (of_decide_eq_true (by kernel_rfl)) k0 bel lt0) (trodAll_cons_mk (Below.trod laidOut (by kernel_rfl) (of_decide_eq_true (by kernel_rfl)) k1 bel lt1) trodAll_mk0)), rfl, bel.frame _, fun h => by cases h⟩

theorem row : Rows.FnAppendStatsAppendsTheLineOfItsCountersSaid :=
  OpenClaim.holds_of_wide 5 Tryd.f5 rfl rfl rfl rfl rfl rfl rfl ⟨rfl, rfl, rfl, rfl, rfl⟩ rfl rfl rfl rfl rfl (by kernel_rfl) Tryd.func5 (by kernel_rfl)
    (of_decide_eq_true (by kernel_rfl)) (by unfold Func.isWrapper; first | (rw [if_pos (by decide +kernel)]; kernel_rfl) | (rw [if_neg (by decide +kernel)]; exact ⟨rfl, rfl⟩))
    (fun os started H enc _ => lifted os started H enc)

/-- THE STATEMENT: the tied card. -/
theorem proved : Rows.FnAppendStatsAppendsTheLineOfItsCountersCardSaid :=
  Claim7.holds_tied_plain_at .later [] [.data, .data, .data] true (true, "934d653bbaccaa313fbbc3c78be5184df627122925f92f48f089ba9e76911ac7") false
    row (fun _ h => by cases h) (by kernel_rfl) (fun _ h => by cases h) fnAppendStatsAppendsTheLineOfItsCounters_row_tie rfl ⟨rfl, rfl⟩ (by kernel_rfl) rfl
    (fun f fn hf hfn => by
      obtain rfl : f = 5 := Option.some.inj ((show Tryd.prog.funcNamed Tryd.f5.name = some 5 by kernel_rfl).symm.trans hf) |>.symm
      obtain rfl : fn = Tryd.f5 := (Option.some.inj (Tryd.func5.symm.trans hfn)).symm
      exact ⟨by kernel_rfl, fun j t ht => by
        rw [Tryd.params5] at ht
        have hm : t ∈ [34, 36] := by simpa using Array.mem_of_getElem? ht
        have hall : ([34, 36].all fun u => !Tryd.prog.wantsStandIn u) = true := by kernel_rfl
        exact (show Tryd.prog.wantsStandIn t = false by simpa using List.all_eq_true.1 hall t hm)⟩)
    (by kernel_rfl)
#print axioms proved
end Go.Proofs.Qxb6617319aDoor.one
