/-
  Seat b6619632a: the walk of FnNewPeerHoldingsStartsEmptyWithRoomForEveryChunk.
-/
import Derived.Test.Qxb6619632aViewPeers
namespace Go.Proofs.Qxb6619632a
open Go.RowKit

theorem rows_later {w w' : World} {b : Nat} {t : TypeId} {n : Nat} {f : Nat → Value} (h : w.rowIs b t n f) (hb : Below w.heap.size w w') : w'.rowIs b t n f := h.of_block (hb.block b h.lt)

set_option maxHeartbeats 4000000 in
theorem peers_main (p s N : Nat) (hp : p ≤ 65536) (hs : s ≤ 65536) (hN : N ≤ 67108864) (hP : (p : Int) * (((s : Int) + 63) / 64) = (N : Int)) (hq : (p : Int) ≤ 0 ∨ 0 < p ∧ (s : Int) ≤ 67108864 / (p : Int)) (w : World) :
    Calls Try.prog 5 #[.int .i64 p, .int .i64 s] w fun e w' => e = .returned (.bool true) ∧ Below w.heap.size w w' := by
  rcases hq with hq | ⟨hq0, hq⟩ <;> rcases (show (s : Int) ≤ 0 ∨ (0 : Int) < (s : Int) by omega) with hs0 | hs0
  all_goals
    go_enter Try.func5, Try.ntmps5
    go_wp2_with fail
    refine (zznew_any p s N hp hs hN hP _).mono ?_
    rintro e w1 ⟨h, l, o, i, b, rfl, hm, hb1⟩
    go_wp2_with fail
    refine (view_any p s N h l o i b _ hm.rb).mono ?_
    rintro e w2 ⟨rfl, hb2⟩
    have rh := rows_later hm.rh hb2
    have rl : w2.rowIs l 3 p (fun _ => .int .i64 (-1)) := (rows_later hm.rl hb2).congr fun j hj => by simp [filled, hj]
    have ri : w2.rowIs i 3 p (fun _ => .int .i64 (-1)) := (rows_later hm.ri hb2).congr fun j hj => by simp [filled, hj]
    have ro := rows_later hm.ro hb2
    have hb : Below w.heap.size w w2 := hb1.trans (hb2.mono hb1.size)
    clear hm hb1 hb2
    go_wp2
    have lh := rh.lt
    have ll := rl.lt
    have li := ri.lt
    have lo := ro.lt
    all_goals
      go_loop [8] (fun v => ∃ k : Nat, k ≤ N ∧ v = .int .i64 k) (fun v => N - (intOf v).toNat)
      case atStart => exact ⟨0, Nat.zero_le _, rfl⟩
      case round =>
        obtain ⟨k, hk, rfl⟩ := hrel
        by_cases hlt : k < N
        · have hc := rh.cell hlt
          go_wp2
          go_round
          case rel => exact ⟨k + 1, by omega, by go_num⟩
          case measure => simp [intOf]; omega
        · go_wp2
          go_loop [9] (fun v => ∃ k : Nat, k ≤ p ∧ v = .int .i64 k) (fun v => p - (intOf v).toNat)
          case atStart => exact ⟨0, Nat.zero_le _, rfl⟩
          case round =>
            obtain ⟨k2, hk2, rfl⟩ := hrel
            by_cases hlt2 : k2 < p
            · have hc := rl.cell hlt2
              have hc2 := ri.cell hlt2
              first
              | (exfalso; omega)
              | (go_wp2
                 go_round
                 case rel => exact ⟨k2 + 1, by omega, by go_num⟩
                 case measure => simp [intOf]; omega)
            · go_wp2
              go_loop [10] (fun v => ∃ k : Nat, k ≤ s ∧ v = .int .i64 k) (fun v => s - (intOf v).toNat)
              case atStart => exact ⟨0, Nat.zero_le _, rfl⟩
              case round =>
                obtain ⟨k3, hk3, rfl⟩ := hrel
                by_cases hlt3 : k3 < s
                · have hc := ro.cell hlt3
                  first
                  | (exfalso; omega)
                  | (go_wp2
                     go_round
                     case rel => exact ⟨k3 + 1, by omega, by go_num⟩
                     case measure => simp [intOf]; omega)
                · go_wp2
                  go_ret
                  exact ⟨rfl, hb.alloc hb.size _⟩

theorem peers_walk (a0 a1 : Int) (w : World) :
    Calls Try.prog 5 #[.int .i64 a0, .int .i64 a1] w fun e w' => e = .returned (.bool true) ∧ Below w.heap.size w w' := by
  by_cases h1 : a0 < 0
  · go_enter Try.func5, Try.ntmps5
    go_wp2
    go_ret
    exact ⟨rfl, Below.refl _ _⟩
  by_cases h2 : a1 < 0
  · go_enter Try.func5, Try.ntmps5
    go_wp2
    go_ret
    exact ⟨rfl, Below.refl _ _⟩
  by_cases h3 : 65536 < a0
  · go_enter Try.func5, Try.ntmps5
    go_wp2
    go_ret
    exact ⟨rfl, Below.refl _ _⟩
  by_cases h4 : 65536 < a1
  · go_enter Try.func5, Try.ntmps5
    go_wp2
    go_ret
    exact ⟨rfl, Below.refl _ _⟩
  obtain ⟨p, rfl⟩ := Int.eq_ofNat_of_zero_le (show 0 ≤ a0 by omega)
  obtain ⟨s, rfl⟩ := Int.eq_ofNat_of_zero_le (show 0 ≤ a1 by omega)
  have hp : p ≤ 65536 := by omega
  have hs : s ≤ 65536 := by omega
  have hN : p * ((s + 63) / 64) ≤ 67108864 := by
    have e1 : (s + 63) / 64 ≤ 1024 := by omega
    exact Nat.le_trans (Nat.mul_le_mul hp e1) (by decide)
  have hP : (p : Int) * (((s : Int) + 63) / 64) = ((p * ((s + 63) / 64) : Nat) : Int) := by
    rw [Int.natCast_mul]; congr 1
  by_cases h5 : (p : Int) ≤ 0
  · exact peers_main p s _ hp hs hN hP (.inl h5) w
  by_cases h6 : (s : Int) ≤ 67108864 / (p : Int)
  · exact peers_main p s _ hp hs hN hP (.inr ⟨by omega, h6⟩) w
  · have h7 : 67108864 / (p : Int) < (s : Int) := by omega
    have h8 : (0 : Int) < (p : Int) := by omega
    clear hP hN h6 h5
    go_enter Try.func5, Try.ntmps5
    go_wp2
    go_ret
    exact ⟨rfl, Below.refl _ _⟩
end Go.Proofs.Qxb6619632a
