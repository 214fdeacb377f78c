/-
  Seat b6619632a: cloneInts.
-/
import Derived.Test.Qxb6619632aRows
import Derived.WalkKit
import Derived.WalkSpells
import Derived.WalkLawsBesides
import Derived.Deep.OwnRows
import Derived.Lib.SliceRun
import Derived.Laws.CopyOwn
namespace Go.Proofs.Qxb6619632a
open Go.RowKit

theorem add_at (b off j : Nat) : (⟨b, off, none⟩ : Addr).add j = ⟨b, off + j, none⟩ := by unfold Addr.add; split <;> simp_all

/-- The slice at 'ao' reads as the numbers zs in the world w. -/
def Reads (w : World) (ao : Option Addr) (zs : List Int) : Prop :=
  zs = [] ∨ ∃ b off, ao = some ⟨b, off, none⟩ ∧ ∀ j, j < zs.length → w.cell? ⟨b, off + j, none⟩ = some (.int .i64 (zs.getD j 0))

theorem Reads.later {w w' : World} {ao : Option Addr} {zs : List Int} (h : Reads w ao zs) (hb : Below w.heap.size w w') : Reads w' ao zs := by
  rcases h with h | ⟨b, off, ho, hc⟩
  · exact .inl h
  · exact .inr ⟨b, off, ho, fun j hj => cell_later hb (hc j hj)⟩

theorem rowIs_later {w w' : World} {b : Nat} {t : TypeId} {n : Nat} {f : Nat → Value} (h : w.rowIs b t n f) (hb : Below w.heap.size w w') : w'.rowIs b t n f := h.of_block (hb.block b h.lt)

theorem Reads.of_row {w : World} {g : Nat} {zs : List Int} (h : w.rowIs g 3 zs.length (fun j => .int .i64 (zs.getD j 0))) : Reads w (some ⟨g, 0, none⟩) zs :=
  .inr ⟨g, 0, rfl, fun j hj => by rw [Nat.zero_add]; exact h.cell hj⟩

theorem clone_nil (w : World) : Calls Try.prog 7 #[.slice none 0 0] w fun e w' => e = .returned (.slice none 0 0) ∧ w' = w := by
  have q : ∀ (w : World) (a : Option Addr) (n c n' c' : Nat), (binOp .eql 22 (.slice a n c) (.slice none n' c')).run Try.prog w = .ok (.bool a.isNone) w := fun w a n c n' c' => Lib.run_eql_slice_nil w _ _ a n c n' c' Try.underlying22
  go_enter Try.func7, Try.ntmps7
  go_wp2
  go_ret
  exact ⟨rfl, rfl⟩

theorem Try.inf3 : (Try.prog.info? 3).map (fun i => (i.zero, i.size, i.bytes)) = some (some (.int .i64 0), 1, 8) := by kernel_rfl
theorem Try.size3 : (Try.prog.info? 3).map (·.size) = some 1 := by kernel_rfl

theorem copied_row (w : World) (zs : List Int) :
    ((w.alloc (.cells (madeCells #[.int .i64 0] zs.length) 3)).setRow w.heap.size (zs.map (Value.int .i64) ++ (madeCells #[.int .i64 0] zs.length).toList.drop zs.length).toArray).rowIs w.heap.size 3 zs.length (fun j => .int .i64 (zs.getD j 0)) := by
  refine ⟨_, setRow_heap _ _ _ _ _ _ (Deep.blk_alloc_new _ _), ?_, fun i hi => ?_⟩
  · simp [size_madeCells]
  · simp only [List.getElem?_toArray]
    rw [List.getElem?_append_left (by simpa using hi), List.getElem?_map, List.getElem?_eq_getElem hi]
    simp [hi]

set_option maxHeartbeats 1000000 in
theorem clone_some (ad : Addr) (c : Nat) (zs : List Int) (w : World) (hl : zs.length ≤ 1048576) (hc : ∀ j, j < zs.length → w.cell? (ad.add j) = some (.int .i64 (zs.getD j 0))) :
    Calls Try.prog 7 #[.slice (some ad) zs.length c] w fun e w' => ∃ g c', e = .returned (.slice (some ⟨g, 0, none⟩) zs.length c') ∧ w'.rowIs g 3 zs.length (fun j => .int .i64 (zs.getD j 0)) ∧ Below w.heap.size w w' := by
  have q : ∀ (w : World) (a : Option Addr) (n c n' c' : Nat), (binOp .eql 22 (.slice a n c) (.slice none n' c')).run Try.prog w = .ok (.bool a.isNone) w := fun w a n c n' c' => Lib.run_eql_slice_nil w _ _ a n c n' c' Try.underlying22
  have mk := run_make_row' (P := Try.prog) 22 3 (.int .i64 0) 8 Try.underlying22 Try.inf3 rfl .i64 .i64 zs.length (by omega) (by omega)
  go_enter Try.func7, Try.ntmps7
  go_wp2_with (refine wpList_copy_own rfl (.tmp 9) (.tmp 10) 22 22 rfl 3 Try.underlying22 Try.size3 w.heap.size 0 zs.length zs.length ad zs.length c rfl rfl (madeCells #[.int .i64 0] zs.length) 3 ?_ (zs.map (Value.int .i64)) ?_ ?_ ?_ ?_ ?_)
  case refine_1 => exact Deep.blk_alloc_new _ _
  case refine_2 => simp
  case refine_3 =>
    intro j v hj
    have hj' : j < zs.length := by simpa using (List.getElem?_eq_some_iff.1 hj).1
    have h1 := hc j hj'
    have h2 : v = .int .i64 (zs.getD j 0) := by
      rw [List.getElem?_map] at hj
      rw [List.getD_eq_getElem?_getD]
      rw [List.getElem?_eq_getElem hj'] at hj ⊢
      simpa using hj.symm
    rw [h2]
    exact cell_later ((Below.refl _ _).alloc (Nat.le_refl _) _) h1
  case refine_4 => simp [size_madeCells]
  case refine_5 => intro v hv; obtain ⟨x, _, rfl⟩ := List.mem_map.1 hv; rfl
  go_ret
  refine ⟨w.heap.size, _, rfl, copied_row w zs, below_setRow ((Below.refl _ _).alloc (Nat.le_refl _) _) (Nat.le_refl _) _⟩

/-- cloneInts, at every slice of at most 2^20 numbers. -/
theorem clone_any (ao : Option Addr) (n c : Nat) (zs : List Int) (w : World) (hn : zs.length = n) (hl : n ≤ 1048576) (hnil : ao = none → n = 0 ∧ c = 0) (hc : ∀ ad, ao = some ad → ∀ j, j < n → w.cell? (ad.add j) = some (.int .i64 (zs.getD j 0))) :
    Calls Try.prog 7 #[.slice ao n c] w fun e w' => ∃ ao' c', e = .returned (.slice ao' n c') ∧ (ao' = none → n = 0 ∧ c' = 0) ∧ Reads w' ao' zs ∧ Below w.heap.size w w' := by
  subst hn
  cases ao with
  | none =>
    obtain ⟨h1, h2⟩ := hnil rfl
    rw [h1, h2]
    refine (clone_nil w).mono fun e w' ⟨he, hw⟩ => ⟨none, 0, he, fun _ => ⟨rfl, rfl⟩, .inl (List.length_eq_zero_iff.1 h1), ?_⟩
    rw [hw]; exact Below.refl _ _
  | some ad =>
    refine (clone_some ad c zs w hl (hc ad rfl)).mono fun e w' ⟨g, c', he, hr, hb⟩ => ⟨_, c', he, fun h => (by cases h), Reads.of_row hr, hb⟩

/-- The same at a slice that 'Reads'. -/
theorem clone_reads (ao : Option Addr) (n c : Nat) (zs : List Int) (w : World) (hn : zs.length = n) (hl : n ≤ 1048576) (hnil : ao = none → n = 0 ∧ c = 0) (hr : Reads w ao zs) :
    Calls Try.prog 7 #[.slice ao n c] w fun e w' => ∃ ao' c', e = .returned (.slice ao' n c') ∧ (ao' = none → n = 0 ∧ c' = 0) ∧ Reads w' ao' zs ∧ Below w.heap.size w w' := by
  refine clone_any ao n c zs w hn hl hnil fun ad ha j hj => ?_
  rcases hr with h | ⟨b, off, ho, hc⟩
  · subst h; subst hn; simp at hj
  · obtain rfl : ad = ⟨b, off, none⟩ := by rw [ha] at ho; exact Option.some.inj ho
    have e : (⟨b, off, none⟩ : Addr).add j = ⟨b, off + j, none⟩ := add_at b off j
    rw [e]
    exact hc j (by omega)
end Go.Proofs.Qxb6619632a
