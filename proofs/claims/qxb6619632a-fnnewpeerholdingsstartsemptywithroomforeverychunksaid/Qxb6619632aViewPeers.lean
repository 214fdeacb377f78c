/-
  Seat b6619632a: ZZNewPeerHoldings, ZZViewPeerHoldings.
-/
import Derived.Test.Qxb6619632aNewPeers
namespace Go.Proofs.Qxb6619632a
open Go.RowKit

theorem zznew_any (p s N : Nat) (hp : p ≤ 65536) (hs : s ≤ 65536) (hN : N ≤ 67108864) (hP : (p : Int) * (((s : Int) + 63) / 64) = (N : Int)) (w : World) :
    Calls Try.prog 11 #[.int .i64 p, .int .i64 s] w fun e w' => ∃ h l o i b, e = .returned (.pointer (some ⟨b, 0, none⟩)) ∧ Made w' p s N h l o i b p ∧ Below w.heap.size w w' := by
  go_enter Try.func11, Try.ntmps11
  go_wp2_with fail
  refine (new_any p s N hp hs hN hP _).mono ?_
  rintro e w' ⟨h, l, o, i, b, rfl, hm, hb⟩
  go_wp2_with fail
  go_ret
  exact ⟨h, l, o, i, b, rfl, hm, hb⟩

set_option maxHeartbeats 4000000 in
theorem view_any (p s N h l o i b : Nat) (w : World) (rb : w.heap[b]? = some (.cells (fields p s N h l o i) 44 (0, 0))) :
    Calls Try.prog 12 #[.pointer (some ⟨b, 0, none⟩)] w fun e w' => e = .returned (.agg #[.int .i64 p, .int .i64 (((s : Int) + 63) / 64), .slice (some ⟨h, 0, none⟩) N N, .slice (some ⟨l, 0, none⟩) p p, .slice (some ⟨o, 0, none⟩) s s, .int .i64 0, .slice (some ⟨i, 0, none⟩) p p]) ∧ Below w.heap.size w w' := by
  have c0 : w.cell? ⟨b, 0, none⟩ = some (.int .i64 p) := by simp [World.cell?, rb, fields]
  have c1 : w.cell? ⟨b, 1, none⟩ = some (.int .i64 (((s : Int) + 63) / 64)) := by simp [World.cell?, rb, fields]
  have c2 : w.cell? ⟨b, 2, none⟩ = some (.slice (some ⟨h, 0, none⟩) N N) := by simp [World.cell?, rb, fields]
  have c3 : w.cell? ⟨b, 3, none⟩ = some (.slice (some ⟨l, 0, none⟩) p p) := by simp [World.cell?, rb, fields]
  have c4 : w.cell? ⟨b, 4, none⟩ = some (.slice (some ⟨o, 0, none⟩) s s) := by simp [World.cell?, rb, fields]
  have c5 : w.cell? ⟨b, 5, none⟩ = some (.int .i64 0) := by simp [World.cell?, rb, fields]
  have c6 : w.cell? ⟨b, 6, none⟩ = some (.slice (some ⟨i, 0, none⟩) p p) := by simp [World.cell?, rb, fields]
  have hlt : b < w.heap.size := World.block_lt_of_cell? w _ c0
  clear rb
  go_enter Try.func12, Try.ntmps12
  go_wp2
  go_region_held3 (fun w' => w'.cell? ⟨b, 0, none⟩ = some (.int .i64 p) ∧ w'.cell? ⟨b, 1, none⟩ = some (.int .i64 (((s : Int) + 63) / 64)) ∧ w'.cell? ⟨b, 2, none⟩ = some (.slice (some ⟨h, 0, none⟩) N N) ∧ w'.cell? ⟨b, 3, none⟩ = some (.slice (some ⟨l, 0, none⟩) p p) ∧ w'.cell? ⟨b, 4, none⟩ = some (.slice (some ⟨o, 0, none⟩) s s) ∧ w'.cell? ⟨b, 5, none⟩ = some (.int .i64 0) ∧ w'.cell? ⟨b, 6, none⟩ = some (.slice (some ⟨i, 0, none⟩) p p)) (go_keep) (fail)
  go_wp2
  simp [bodyPost, results, Try.results12, go_sem]
  exact ((Below.refl _ _).alloc (Nat.le_refl _) _).drew
end Go.Proofs.Qxb6619632a
