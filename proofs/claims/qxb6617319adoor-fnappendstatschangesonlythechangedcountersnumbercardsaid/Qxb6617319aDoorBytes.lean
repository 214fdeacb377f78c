/-
  Seat b6617319aD: the law file's helpers over byte slices.
-/
import Derived.Test.Qxb6617319aDoorRows
import Derived.WalkKit
import Derived.WalkSpells
import Derived.WalkLawsBesides
import Derived.Deep.OwnRows
import Derived.Lib.SliceRun
import Derived.Laws.CopyOwn
import Derived.Deep.QuietTactic
import Derived.BigQuiet
import Derived.Lib.UnsafeStr
namespace Go.Proofs.Qxb6617319aDoor
open Go.RowKit

theorem ret_int {k : IntKind} {a b : Int} (h : a = b) : Ending.returned (.int k a) = .returned (.int k b) := by rw [h]
theorem add_at (b off j : Nat) : (⟨b, off, none⟩ : Addr).add j = ⟨b, off + j, none⟩ := by unfold Addr.add; split <;> simp_all

/-- Byte j, as the cell holds it. -/
def byteAt (bs : List UInt8) (j : Nat) : Int := ((bs.getD j 0).toNat : Int)

theorem byteAt_bounds (bs : List UInt8) (j : Nat) : 0 ≤ byteAt bs j ∧ byteAt bs j ≤ 255 := by
  unfold byteAt
  have := (bs.getD j 0).toNat_lt
  omega

/-- The slice at 'ao' reads as the bytes bs in the world w. -/
def RB (w : World) (ao : Option Addr) (bs : List UInt8) : Prop :=
  bs = [] ∨ ∃ b off, ao = some ⟨b, off, none⟩ ∧ ∀ j, j < bs.length → w.cell? ⟨b, off + j, none⟩ = some (.int .u8 (byteAt bs j))

theorem RB.later {w w' : World} {ao : Option Addr} {bs : List UInt8} (h : RB w ao bs) (hb : Below w.heap.size w w') : RB w' ao bs := by
  rcases h with h | ⟨b, off, ho, hc⟩
  · exact .inl h
  · exact .inr ⟨b, off, ho, fun j hj => cell_later hb (hc j hj)⟩

theorem RB.drewN {w : World} {ao : Option Addr} {bs : List UInt8} (h : RB w ao bs) (n : Nat) : RB (w.drewN n) ao bs := h

theorem RB.at {w : World} {ao : Option Addr} {n : Nat} {bs : List UInt8} (h : RB w ao bs) (hn : bs.length = n) {j : Nat} (hj : j < n) :
    ∃ b off, ao = some ⟨b, off, none⟩ ∧ w.cell? ⟨b, off + j, none⟩ = some (.int .u8 (byteAt bs j)) := by
  rcases h with h | ⟨b, off, h1, h2⟩
  · subst h; subst hn; simp at hj
  · exact ⟨b, off, h1, h2 j (by omega)⟩

theorem RB.of_own {w : World} {B g n cap : Nat} {bs : List UInt8} (h : w.ownsRow B 5 1 (.slice (some ⟨g, 0, none⟩) n cap) n (Lib.byteCells bs)) (hn : bs.length = n) : RB w (some ⟨g, 0, none⟩) bs := by
  refine .inr ⟨g, 0, rfl, fun j hj => ?_⟩
  rw [Nat.zero_add, h.cellAt j (by omega)]
  simp [Lib.byteCells, byteAt, hj]

theorem Tryd.inf5 : (Tryd.prog.info? 5).map (fun i => (i.zero, i.size, i.bytes)) = some (some (.int .u8 0), 1, 1) := by kernel_rfl
theorem Tryd.size5 : (Tryd.prog.info? 5).map (·.size) = some 1 := by kernel_rfl

theorem clone_nil (w : World) : Calls Tryd.prog 15 #[.slice none 0 0] w fun e w' => e = .returned (.slice none 0 0) ∧ w' = w := by
  have q : ∀ (w : World) (a : Option Addr) (n c n' c' : Nat), (binOp .eql 34 (.slice a n c) (.slice none n' c')).run Tryd.prog w = .ok (.bool a.isNone) w := fun w a n c n' c' => Lib.run_eql_slice_nil w _ _ a n c n' c' Tryd.underlying34
  go_enter Tryd.func15, Tryd.ntmps15
  go_wp2
  go_ret
  exact ⟨rfl, rfl⟩

theorem copied_own (w : World) (bs : List UInt8) (B : Nat) (hB : B ≤ w.heap.size) (hl : bs.length ≤ 1048576) :
    ((w.alloc (.cells (madeCells #[.int .u8 0] bs.length) 5)).setRow w.heap.size (Lib.byteCells bs ++ (madeCells #[.int .u8 0] bs.length).toList.drop bs.length).toArray).ownsRow B 5 1 (.slice (some ⟨w.heap.size, 0, none⟩) bs.length bs.length) bs.length (Lib.byteCells bs) := by
  refine ⟨by simp [Lib.byteCells_length], .inr ⟨w.heap.size, bs.length, _, rfl, hB, setRow_heap _ _ _ _ _ _ (Deep.blk_alloc_new _ _), Nat.le_refl _, by unfold maxLen; omega, ?_, ?_⟩⟩
  · simp [Lib.byteCells_length, size_madeCells]
  · simp [Lib.byteCells_length]

set_option maxHeartbeats 1000000 in
theorem clone_some (ad : Addr) (c : Nat) (bs : List UInt8) (w : World) (B : Nat) (hB : B ≤ w.heap.size) (hl : bs.length ≤ 1048576) (hc : ∀ j, j < bs.length → w.cell? (ad.add j) = some (.int .u8 (byteAt bs j))) :
    Calls Tryd.prog 15 #[.slice (some ad) bs.length c] w fun e w' => e = .returned (.slice (some ⟨w.heap.size, 0, none⟩) bs.length bs.length) ∧ w'.ownsRow B 5 1 (.slice (some ⟨w.heap.size, 0, none⟩) bs.length bs.length) bs.length (Lib.byteCells bs) ∧ Below w.heap.size w w' := by
  have q : ∀ (w : World) (a : Option Addr) (n c n' c' : Nat), (binOp .eql 34 (.slice a n c) (.slice none n' c')).run Tryd.prog w = .ok (.bool a.isNone) w := fun w a n c n' c' => Lib.run_eql_slice_nil w _ _ a n c n' c' Tryd.underlying34
  have mk := run_make_row' (P := Tryd.prog) 34 5 (.int .u8 0) 1 Tryd.underlying34 Tryd.inf5 rfl .i64 .i64 bs.length (by omega) (by omega)
  go_enter Tryd.func15, Tryd.ntmps15
  go_wp2_with (refine wpList_copy_own rfl (.tmp 9) (.tmp 10) 34 34 rfl 5 Tryd.underlying34 Tryd.size5 w.heap.size 0 bs.length bs.length ad bs.length c rfl rfl (madeCells #[.int .u8 0] bs.length) 5 ?_ (Lib.byteCells bs) ?_ ?_ ?_ ?_ ?_)
  case refine_1 => exact Deep.blk_alloc_new _ _
  case refine_2 => simp [Lib.byteCells_length]
  case refine_3 =>
    intro j v hj
    have hj' : j < bs.length := by simpa [Lib.byteCells] using (List.getElem?_eq_some_iff.1 hj).1
    have h2 : v = .int .u8 (byteAt bs j) := by
      rw [Lib.byteCells, List.getElem?_map, List.getElem?_eq_getElem hj'] at hj
      simp [byteAt, hj'] at hj ⊢
      exact hj.symm
    rw [h2]
    exact cell_later ((Below.refl _ _).alloc (Nat.le_refl _) _) (hc j hj')
  case refine_4 => simp [size_madeCells, Lib.byteCells_length]
  case refine_5 => intro v hv; obtain ⟨x, _, rfl⟩ := List.mem_map.1 hv; rfl
  go_ret
  refine ⟨rfl, ?_, below_setRow ((Below.refl _ _).alloc (Nat.le_refl _) _) (Nat.le_refl _) _⟩
  simpa [Lib.byteCells_length] using copied_own w bs B hB hl

/-- zzCloneBytes, at every slice of at most 2^20 bytes. -/
theorem clone_any (ao : Option Addr) (n c : Nat) (bs : List UInt8) (w : World) (B : Nat) (hB : B ≤ w.heap.size) (hn : bs.length = n) (hl : n ≤ 1048576) (hnil : ao = none → n = 0 ∧ c = 0) (hc : ∀ ad, ao = some ad → ∀ j, j < n → w.cell? (ad.add j) = some (.int .u8 (byteAt bs j))) :
    Calls Tryd.prog 15 #[.slice ao n c] w fun e w' => ∃ ao' c', e = .returned (.slice ao' n c') ∧ (ao' = none → n = 0 ∧ c' = 0) ∧ w'.ownsRow B 5 1 (.slice ao' n c') n (Lib.byteCells bs) ∧ RB w' ao' bs ∧ Below w.heap.size w w' := by
  subst hn
  cases ao with
  | none =>
    obtain ⟨h1, h2⟩ := hnil rfl
    have h3 : bs = [] := List.length_eq_zero_iff.1 h1
    subst h3
    rw [h2]
    refine (clone_nil w).mono fun e w' ⟨he, hw⟩ => ⟨none, 0, he, fun _ => ⟨rfl, rfl⟩, World.ownsRow_nil _ _ _ _, .inl rfl, ?_⟩
    rw [hw]; exact Below.refl _ _
  | some ad =>
    exact (clone_some ad c bs w B hB hl (hc ad rfl)).mono fun e w' ⟨he, hr, hb⟩ => ⟨_, _, he, fun h => (by cases h), hr, RB.of_own hr rfl, hb⟩

theorem clone_reads (ao : Option Addr) (n c : Nat) (bs : List UInt8) (w : World) (B : Nat) (hB : B ≤ w.heap.size) (hn : bs.length = n) (hl : n ≤ 1048576) (hnil : ao = none → n = 0 ∧ c = 0) (hr : RB w ao bs) :
    Calls Tryd.prog 15 #[.slice ao n c] w fun e w' => ∃ ao' c', e = .returned (.slice ao' n c') ∧ (ao' = none → n = 0 ∧ c' = 0) ∧ w'.ownsRow B 5 1 (.slice ao' n c') n (Lib.byteCells bs) ∧ RB w' ao' bs ∧ Below w.heap.size w w' := by
  refine clone_any ao n c bs w B hB hn hl hnil fun ad ha j hj => ?_
  obtain ⟨b, off, h1, h2⟩ := hr.at hn hj
  obtain rfl : ad = ⟨b, off, none⟩ := by rw [ha] at h1; exact Option.some.inj h1
  rw [add_at]; exact h2

set_option maxHeartbeats 1000000 in
/-- zzSameBytes, at two slices of the same bytes. -/
theorem same_any (ao bo : Option Addr) (n c c2 : Nat) (bs : List UInt8) (w : World) (hn : bs.length = n) (hl : n ≤ 1073741824) (ha : RB w ao bs) (hb : RB w bo bs) :
    Calls Tryd.prog 17 #[.slice ao n c, .slice bo n c2] w fun e w' => e = .returned (.bool true) ∧ ∃ q, w' = w.drewN q := by
  have HN : Hid (bs.length = n) := hn
  clear hn
  go_enter Tryd.func17, Tryd.ntmps17
  go_wp2
  go_loopw [5] (fun i wr => ∃ j q : Nat, j ≤ n ∧ i = .int .i64 j ∧ wr = w.drewN q) (fun i _ => n - (intOf i).toNat)
  case atStart => exact ⟨0, 0, Nat.zero_le _, rfl, rfl⟩
  case round =>
    obtain ⟨j, q, hj, rfl, rfl⟩ := hrel
    by_cases hlt : j < n
    · obtain ⟨b, off, rfl, hc⟩ := ha.at HN.out hlt
      obtain ⟨b2, off2, rfl, hc2⟩ := hb.at HN.out hlt
      have i0 : (0 : Int) ≤ (j : Int) := by omega
      have i1 : (j : Int) < (n : Int) := by omega
      go_wp2
      go_quiet (fail)
      go_wp2
      go_roundw
      case rel => exact ⟨j + 1, _, by omega, by go_num, rfl⟩
      case measure => simp [intOf]; omega
    · go_wp2
      go_ret
      exact ⟨rfl, q, rfl⟩

/-- How many of the first j bytes are blanks. -/
def blanks (bs : List UInt8) : Nat → Nat
  | 0 => 0
  | j + 1 => blanks bs j + if byteAt bs j = 32 then 1 else 0
theorem blanks_le (bs : List UInt8) (j : Nat) : blanks bs j ≤ j := by
  induction j with
  | zero => exact Nat.le_refl _
  | succ j ih => simp only [blanks]; split <;> omega
theorem blanks_yes (bs : List UInt8) (j : Nat) (h : byteAt bs j = 32) : blanks bs (j + 1) = blanks bs j + 1 := by simp [blanks, h]
theorem blanks_no (bs : List UInt8) (j : Nat) (h : ¬ byteAt bs j = 32) : blanks bs (j + 1) = blanks bs j := by simp [blanks, h]

set_option maxHeartbeats 1000000 in
/-- zzCountTokens, at a slice that is not empty. -/
theorem count_any (ao : Option Addr) (n c : Nat) (bs : List UInt8) (w : World) (hn : bs.length = n) (h0 : 0 < n) (hl : n ≤ 1073741824) (ha : RB w ao bs) :
    Calls Tryd.prog 18 #[.slice ao n c] w fun e w' => e = .returned (.int .i64 (1 + blanks bs n)) ∧ w' = w := by
  have HN : Hid (bs.length = n) := hn
  clear hn
  go_enter Tryd.func18, Tryd.ntmps18
  go_wp2
  go_loop [3, 4] (fun t i => ∃ (j : Nat) (k : Int), j ≤ n ∧ i = .int .i64 j ∧ t = .int .i64 k ∧ Hid (k = 1 + (blanks bs j : Int)) ∧ 0 ≤ k ∧ k ≤ 1 + j) (fun _ i => n - (intOf i).toNat)
  case atStart => exact ⟨0, 1, Nat.zero_le _, rfl, rfl, rfl, by omega, by omega⟩
  case round =>
    obtain ⟨j, k, hj, rfl, rfl, hk, hk0, hk1⟩ := hrel
    by_cases hlt : j < n
    · obtain ⟨b, off, rfl, hc⟩ := ha.at HN.out hlt
      obtain ⟨x, hx⟩ : ∃ x, x = byteAt bs j := ⟨_, rfl⟩
      have HX : Hid (x = byteAt bs j) := hx
      rw [← hx] at hc
      clear hx
      by_cases h32 : x = 32
      · have hq : (x == 32) = true := by simpa using h32
        have H32 : Hid (x = 32) := h32
        clear h32
        go_wp2
        go_round
        case rel => exact ⟨j + 1, k + 1, by omega, by go_num, rfl, by show k + 1 = _; rw [hk.out, blanks_yes bs j (by rw [← HX.out]; exact H32.out)]; omega, by omega, by omega⟩
        case measure => simp [intOf]; omega
      · have hq : (x == 32) = false := by simpa using h32
        have H32 : Hid (¬ x = 32) := h32
        clear h32
        go_wp2
        go_round
        case rel => exact ⟨j + 1, k, by omega, by go_num, rfl, by show k = _; rw [hk.out, blanks_no bs j (by rw [← HX.out]; exact H32.out)], by omega, by omega⟩
        case measure => simp [intOf]; omega
    · obtain rfl : n = j := by omega
      go_wp2
      go_ret
      exact ⟨ret_int hk.out, rfl⟩
end Go.Proofs.Qxb6617319aDoor
