/-
  Seat b6619632a: ZZNewMeasure, (*measure).result, ZZMeasureResult.
-/
import Derived.Test.Qxb6619632aClone
import Derived.Deep.DeepCutAuto
import Derived.Deep.RegionHeld3
import Derived.BigRegion
namespace Go.Proofs.Qxb6619632a
open Go.RowKit

theorem newMeasure_any (f l : Int) (v : Value) (c : Int) (hv : ∃ ao n k, v = .slice ao n k) (w : World) :
    Calls Try.prog 9 #[.int .i64 f, .int .i64 l, v, .int .i64 c] w fun e w' => e = .returned (.pointer (some ⟨w.heap.size, 0, none⟩)) ∧ w' = w.alloc (.cells #[.int .i64 f, .int .i64 l, v, .int .i64 c] 42) := by
  obtain ⟨ao, n, k, rfl⟩ := hv
  go_enter Try.func9, Try.ntmps9
  go_wp2
  go_ret
  exact ⟨rfl, rfl⟩

/-- The running sums, wrapped as Go's int wraps. -/
def cum (zs : List Int) : Nat → Int
  | 0 => 0
  | k + 1 => wrap64 (cum zs k + zs.getD k 0)

theorem result_none (bm : Nat) (r : Int) (w : World) (c3 : w.cell? ⟨bm, 3, none⟩ = some (.int .i64 0)) :
    Calls Try.prog 13 #[.pointer (some ⟨bm, 0, none⟩), .int .i64 r] w fun e w' => e = .returned (.pointer none) ∧ w' = w := by
  go_enter Try.func13, Try.ntmps13
  go_wp2
  go_ret
  exact ⟨rfl, rfl⟩

/-- The result lies at block d: the row of running sums (block g), the chunks, the receivers. -/
structure Res (w : World) (d g n : Nat) (zs : List Int) (c r : Int) : Prop where
  rg : w.rowIs g 3 n (fun j => .int .i64 (cum zs (j + 1)))
  rd : w.heap[d]? = some (.cells #[.slice (some ⟨g, 0, none⟩) n n, .int .i64 c, .int .i64 r] 30 (0, 0))

def partly (zs : List Int) (k : Nat) (j : Nat) : Value := if j < k then .int .i64 (cum zs (j + 1)) else .int .i64 0
theorem partly_zero (zs : List Int) (j : Nat) : Value.int .i64 0 = partly zs 0 j := by simp [partly]
theorem partly_step (zs : List Int) (k j : Nat) : (if j = k then Value.int .i64 (cum zs (k + 1)) else partly zs k j) = partly zs (k + 1) j := by
  unfold partly
  by_cases h : j = k
  · subst h; simp
  · by_cases h2 : j < k
    · rw [if_neg h, if_pos h2, if_pos (by omega)]
    · rw [if_neg h, if_neg h2, if_neg (by omega)]
theorem partly_all (zs : List Int) (n j : Nat) (h : j < n) : partly zs n j = .int .i64 (cum zs (j + 1)) := by simp [partly, h]
theorem made_new_at (W : World) (z : Value) (n : Nat) (t : TypeId) (b : Nat) (hb : b = W.heap.size) : (W.alloc (.cells (madeCells #[z] n) t)).rowIs b t n (fun _ => z) := by
  subst hb; exact World.rowIs_made _ _ _ _
theorem block_new_at (W : World) (o : Obj) (b : Nat) (hb : b = W.heap.size) : (W.alloc o).heap[b]? = some o := by
  subst hb; exact Deep.blk_alloc_new _ _

set_option maxHeartbeats 2000000 in
theorem result_some (bm : Nat) (ao : Option Addr) (n k : Nat) (zs : List Int) (c r : Int) (w : World) (hc : (c == 0) = false) (hn : zs.length = n) (hl : n ≤ 1048576)
    (c2 : w.cell? ⟨bm, 2, none⟩ = some (.slice ao n k)) (c3 : w.cell? ⟨bm, 3, none⟩ = some (.int .i64 c)) (hr : Reads w ao zs) :
    Calls Try.prog 13 #[.pointer (some ⟨bm, 0, none⟩), .int .i64 r] w fun e w' => ∃ d g, e = .returned (.pointer (some ⟨d, 0, none⟩)) ∧ Res w' d g n zs c r ∧ Below w.heap.size w w' := by
  have mk := run_make_row' (P := Try.prog) 22 3 (.int .i64 0) 8 Try.underlying22 Try.inf3 rfl .i64 .i64 n (by omega) (by omega)
  have lbm : bm < w.heap.size := World.block_lt_of_cell? w _ c3
  have hr' : (zs.length ≤ 0 ∧ n ≤ 0) ∨ ∃ b off, ao = some ⟨b, off, none⟩ ∧ ∀ j, j < zs.length → w.cell? ⟨b, off + j, none⟩ = some (.int .i64 (zs.getD j 0)) := by
    rcases hr with h | h
    · exact .inl ⟨by rw [h]; simp, by rw [← hn, h]; simp⟩
    · exact .inr h
  clear hr
  rcases hr' with ⟨hz0, hn0⟩ | ⟨b, off, rfl, hcell⟩
  all_goals
    have HN : Hid (zs.length = n) := hn
    clear hn
    go_enter Try.func13, Try.ntmps13
    go_wp2
    go_region
    go_wp2
    clear mk
    go_loopw [6, 32] (fun s i wr => ∃ k : Nat, k ≤ n ∧ i = .int .i64 k ∧ s = .int .i64 (cum zs k) ∧ wr.rowIs w.heap.size 3 n (partly zs k) ∧ wr.heap[w.heap.size + 1]? = some (.cells #[.slice (some ⟨w.heap.size, 0, none⟩) n n, .int .i64 c, .int .i64 r] 30 (0, 0)) ∧ Below w.heap.size w wr) (fun _ i _ => n - (intOf i).toNat)
    case atStart =>
      refine ⟨0, Nat.zero_le _, rfl, rfl, ?_, ?_, ?_⟩
      · exact ((made_new_at w (.int .i64 0) n 3 _ rfl).alloc _).drew.congr fun j _ => partly_zero zs j
      · exact block_new_at _ _ _ (by simp)
      · exact (((Below.refl _ _).alloc (Nat.le_refl _) _).alloc (by simp) _).drew
    case round =>
      obtain ⟨k, hk, rfl, rfl, hg, hd, hb⟩ := hrel
      by_cases hlt : k < n
      · first
        | (exfalso; omega)
        | (have hlt' : k < zs.length := by rw [HN.out]; exact hlt
           obtain ⟨z, hz⟩ : ∃ z, z = zs.getD k 0 := ⟨_, rfl⟩
           have HZ : Hid (z = zs.getD k 0) := hz
           have hcx : wr.cell? ⟨b, off + k, none⟩ = some (.int .i64 z) := by rw [hz]; exact cell_later hb (hcell k hlt')
           clear hz
           have cd : wr.cell? ⟨w.heap.size + 1, 0, none⟩ = some (.slice (some ⟨w.heap.size, 0, none⟩) n n) := by simp [World.cell?, hd]
           have cg := hg.cell hlt
           have fg := hg.frozen k
           clear hcell
           go_wp2
           go_roundw
           case rel =>
             refine ⟨k + 1, by omega, by go_num, by show _ = Value.int .i64 (wrap64 (cum zs k + zs.getD k 0)); rw [← HZ.out], ?_, ?_, hb.setCell (Nat.le_refl _) _⟩
             · have := (hg.set k (.int .i64 (wrap64 (cum zs k + z)))).congr (g := partly zs (k + 1)) fun j _ => by
                 rw [← partly_step]; show _ = if j = k then Value.int .i64 (wrap64 (cum zs k + zs.getD k 0)) else _; rw [← HZ.out]
               exact this
             · rw [Deep.blk_setCell_other _ _ _ _ (by simp)]; exact hd
           case measure => simp [intOf]; omega)
      · obtain rfl : k = n := by omega
        go_wp2
        go_ret
        exact ⟨w.heap.size + 1, w.heap.size, rfl, ⟨hg.congr fun j hj => partly_all zs _ j hj, hd⟩, hb⟩

theorem zzresult_none (bm : Nat) (r : Int) (w : World) (c3 : w.cell? ⟨bm, 3, none⟩ = some (.int .i64 0)) :
    Calls Try.prog 8 #[.pointer (some ⟨bm, 0, none⟩), .int .i64 r] w fun e w' => e = .returned (.pointer none) ∧ w' = w := by
  go_enter Try.func8, Try.ntmps8
  go_wp2_with fail
  refine (result_none bm r _ c3).mono ?_
  rintro e w' ⟨rfl, rfl⟩
  go_wp2_with fail
  go_ret
  exact ⟨rfl, rfl⟩

theorem zzresult_some (bm : Nat) (ao : Option Addr) (n k : Nat) (zs : List Int) (c r : Int) (w : World) (hc : (c == 0) = false) (hn : zs.length = n) (hl : n ≤ 1048576)
    (c2 : w.cell? ⟨bm, 2, none⟩ = some (.slice ao n k)) (c3 : w.cell? ⟨bm, 3, none⟩ = some (.int .i64 c)) (hr : Reads w ao zs) :
    Calls Try.prog 8 #[.pointer (some ⟨bm, 0, none⟩), .int .i64 r] w fun e w' => ∃ d g, e = .returned (.pointer (some ⟨d, 0, none⟩)) ∧ Res w' d g n zs c r ∧ Below w.heap.size w w' := by
  go_enter Try.func8, Try.ntmps8
  go_wp2_with fail
  refine (result_some bm ao n k zs c r _ hc hn hl c2 c3 hr).mono ?_
  rintro e w' ⟨d, g, rfl, hres, hb⟩
  go_wp2_with fail
  go_ret
  exact ⟨d, g, rfl, hres, hb⟩
end Go.Proofs.Qxb6619632a
