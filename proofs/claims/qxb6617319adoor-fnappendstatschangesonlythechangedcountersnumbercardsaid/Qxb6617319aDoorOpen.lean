/-
  Seat b6617319aD: the arguments opened; the table out of the row's condition; the start that fits.
-/
import Derived.Test.Qxb6617319aDoorLawOne
import Derived.WalkKit
import Derived.ProofKit
import Derived.OpenShut
import Derived.LaidMore
import Derived.Stop.Joined
import Derived.Stop.LaidErr
import Derived.Lib.LaidTab
namespace Go.Proofs.Qxb6617319aDoor
open Go.ChangeShapes Go.WideShapes Go.ChangeAt Go.RowKit

theorem own : ownKnob Tryd.prog.godebug = none := by kernel_rfl
theorem laidOut : laidOutB Tryd.prog = true := by kernel_rfl

/-- What the rows list. -/
abbrev laid3 : List (String × DataW Unit) := Rows.fnAppendStatsAppendsTheLineOfItsCountersRow.laid

theorem door_met (os : Os) (args : Array Value) : laidMetH Tryd.prog laid3 ((World.doorLaid Tryd.prog 400 os).forCall (fun _ _ => 0) ⟨#[], args, []⟩).memory :=
  laidMetH_of_parts3 (fuel := 8) (laidMet_of_run' 8 (by kernel_rfl) (by kernel_rfl)) (by kernel_rfl) (by kernel_rfl)

theorem tab_data : (Rows.laid_internal_strconv_uint64pow10 : DataW Unit) = Lib.tabData .u64 Lib.pow10Tab := by kernel_rfl

theorem tab_of {W : World} (h : laidMetH Tryd.prog laid3 W) : Tab W ∧ glob < W.heap.size := by
  rw [MakeChecks.laidMetH_plain _ _ _ (by kernel_rfl)] at h
  have h2 : laidMet Tryd.prog ((powName, Lib.tabData .u64 Lib.pow10Tab) :: []) W := by
    rw [← tab_data]; exact (laidMet.tail (laidMet.tail h))
  have ht : Tab W := Lib.tabIs_of_head (n := 20) (t := 68) (e := 27) glob_eq (by kernel_rfl) Tryd.underlying68 Tryd.underlying27 (by kernel_rfl) (by kernel_rfl) h2
  refine ⟨ht, ?_⟩
  have hc := Lib.TabIs.cell ht glob_eq 0 (by decide)
  exact World.block_lt_of_cell? W _ hc

theorem five_of {a : Array Value} (h : a.size = 5) : ∃ c0 c1 c2 c3 c4, a = #[c0, c1, c2, c3, c4] := by
  obtain ⟨l⟩ := a
  match l, h with
  | [c0, c1, c2, c3, c4], _ => exact ⟨c0, c1, c2, c3, c4, rfl⟩

def pick5 (a b c d e : Nat) : Nat → Nat
  | 0 => a
  | 1 => b
  | 2 => c
  | 3 => d
  | 4 => e
  | _ => 0

theorem int_of {H : Type} {enc : TypeId × Value → H} {W : World} {base : Nat} {sp : Nat → Bool} {hd : Bool} {fuel : Nat} {c : Value} {y : Option (DataW H × List MemPlace)} (h : DataW.trod enc Tryd.prog W base sp hd fuel 27 [c] = y) (hy : y.isSome = true) : ∃ n : Nat, n < 18446744073709551616 ∧ c = .int .u64 n := by
  obtain ⟨x, hx⟩ := Option.isSome_iff_exists.1 hy
  rw [hx] at h
  obtain ⟨n, e, _, hw⟩ := DataW.trod_int Tryd.underlying27 h
  have hb := bounds_u64 hw
  obtain ⟨m, rfl⟩ := Int.eq_ofNat_of_zero_le hb.1
  refine ⟨m, by omega, ?_⟩
  simpa using e

theorem open_stats {H : Type} {enc : TypeId × Value → H} {W : World} {b0 base : Nat} {sp : Nat → Bool} {hd : Bool} {v : Value} {d : DataW H} {p : List MemPlace} (hv : Value.okWide Tryd.prog W .any b0 36 v) (h : DataW.Trod enc Tryd.prog W base sp hd 36 v d p) :
    ∃ xs : Nat → Nat, (∀ i, xs i < 18446744073709551616) ∧ v = st xs := by
  obtain ⟨cs, rfl, hsz⟩ := okWide_struct Tryd.underlying36 hv
  obtain ⟨c0, c1, c2, c3, c4, rfl⟩ := five_of (hsz.trans (by kernel_rfl))
  obtain ⟨fuel, hf⟩ := h
  obtain ⟨ys, n, _, _, _, hlen, hfld⟩ := DataW.trod_struct Tryd.underlying36 hf
  have c27 : Tryd.prog.cellsOf 27 = 1 := by kernel_rfl
  have hlen' : ys.length = 5 := hlen
  have some_at : ∀ i, i < 5 → ys[i]?.isSome = true := fun i hi => by rw [List.getElem?_eq_getElem (by omega)]; rfl
  have g0 : DataW.trod enc Tryd.prog W base sp hd n 27 [c0] = ys[0]? := by have h0 : DataW.trod enc Tryd.prog W base sp hd n 27 (List.take (Tryd.prog.cellsOf 27) (List.drop 0 [c0, c1, c2, c3, c4])) = ys[0]? := hfld 0 _ rfl; rw [c27] at h0; exact h0
  have g1 : DataW.trod enc Tryd.prog W base sp hd n 27 [c1] = ys[1]? := by have h0 : DataW.trod enc Tryd.prog W base sp hd n 27 (List.take (Tryd.prog.cellsOf 27) (List.drop 1 [c0, c1, c2, c3, c4])) = ys[1]? := hfld 1 _ rfl; rw [c27] at h0; exact h0
  have g2 : DataW.trod enc Tryd.prog W base sp hd n 27 [c2] = ys[2]? := by have h0 : DataW.trod enc Tryd.prog W base sp hd n 27 (List.take (Tryd.prog.cellsOf 27) (List.drop 2 [c0, c1, c2, c3, c4])) = ys[2]? := hfld 2 _ rfl; rw [c27] at h0; exact h0
  have g3 : DataW.trod enc Tryd.prog W base sp hd n 27 [c3] = ys[3]? := by have h0 : DataW.trod enc Tryd.prog W base sp hd n 27 (List.take (Tryd.prog.cellsOf 27) (List.drop 3 [c0, c1, c2, c3, c4])) = ys[3]? := hfld 3 _ rfl; rw [c27] at h0; exact h0
  have g4 : DataW.trod enc Tryd.prog W base sp hd n 27 [c4] = ys[4]? := by have h0 : DataW.trod enc Tryd.prog W base sp hd n 27 (List.take (Tryd.prog.cellsOf 27) (List.drop 4 [c0, c1, c2, c3, c4])) = ys[4]? := hfld 4 _ rfl; rw [c27] at h0; exact h0
  obtain ⟨n0, b0, rfl⟩ := int_of g0 (some_at 0 (by omega))
  obtain ⟨n1, b1, rfl⟩ := int_of g1 (some_at 1 (by omega))
  obtain ⟨n2, b2, rfl⟩ := int_of g2 (some_at 2 (by omega))
  obtain ⟨n3, b3, rfl⟩ := int_of g3 (some_at 3 (by omega))
  obtain ⟨n4, b4, rfl⟩ := int_of g4 (some_at 4 (by omega))
  refine ⟨pick5 n0 n1 n2 n3 n4, fun i => ?_, rfl⟩
  match i with
  | 0 => exact b0
  | 1 => exact b1
  | 2 => exact b2
  | 3 => exact b3
  | 4 => exact b4
  | _ + 5 => show 0 < _; omega

/-- The slice of bytes that came in. -/
theorem came_of {H : Type} {enc : TypeId × Value → H} {W : World} {base : Nat} {sp : Nat → Bool} {hd : Bool} {a : Option Addr} {len cap : Nat} {d : DataW H} {p : List MemPlace} (h : DataW.Trod enc Tryd.prog W base sp hd 34 (.slice a len cap) d p) :
    len ≤ maxLen ∧ ∃ bs, Came W a len cap bs := by
  obtain ⟨fuel, hf⟩ := h
  rcases open_ints Tryd.underlying34 Tryd.underlying5 (by kernel_rfl) hf with ⟨hcs, _⟩ | ⟨x, l, c, zs, hcs, _, hl, hm, hz, _, hcell, hwz⟩
  · simp [Value.cells] at hcs
    obtain ⟨rfl, rfl, rfl⟩ := hcs
    exact ⟨Nat.zero_le _, [], rfl, fun _ => ⟨rfl, rfl⟩, fun _ h => by cases h⟩
  · simp [Value.cells] at hcs
    obtain ⟨rfl, rfl, rfl⟩ := hcs
    have hlz : len ≤ zs.length ∨ len = 0 := by
      by_cases h0 : len = 0
      · exact .inr h0
      · left; revert hz; split <;> intro hz <;> omega
    refine ⟨Nat.le_trans hl hm, (List.range len).map (fun j => UInt8.ofNat (zs.getD j 0).toNat), by simp, (fun h => by cases h), ?_⟩
    intro ad ha j hj
    cases ha
    have hjz : j < zs.length := by omega
    rw [hcell j hjz]
    have hb := bounds_u8 (hwz (zs.getD j 0) (by rw [List.getD_eq_getElem?_getD, List.getElem?_eq_getElem hjz]; exact List.getElem_mem hjz))
    have e : byteAt ((List.range len).map (fun j => UInt8.ofNat (zs.getD j 0).toNat)) j = zs.getD j 0 := by
      unfold byteAt
      rw [List.getD_eq_getElem?_getD, List.getElem?_map, List.getElem?_range hj]
      simp only [Option.map_some, Option.getD_some]
      have : (UInt8.ofNat (zs.getD j 0).toNat).toNat = (zs.getD j 0).toNat := by
        simp only [UInt8.toNat_ofNat']; omega
      rw [this]; omega
    rw [e]
end Go.Proofs.Qxb6617319aDoor
