/-
  Seat b6619216a: the law file's own helpers: zzOne, zzOnlyCode, zzCountCode, zzFilteredEqual.
-/
import Derived.Test.Qxb6619216aRefs
import Derived.RegionTactic
import Derived.Deep.QuietTactic
import Derived.BigQuiet
namespace Go.Proofs.Qxb6619216a
open Go.RowKit

theorem ret_int {k : IntKind} {a b : Int} (h : a = b) : Ending.returned (.int k a) = .returned (.int k b) := by rw [h]

theorem Out.view {w : World} {v : Value} {ss : List ByteArray} (h : Out w v ss) :
    ∃ ao g c, v = .slice ao ss.length c ∧ (0 < ss.length → ao = some ⟨g, 0, none⟩) ∧ ∀ i x, ss[i]? = some x → w.cell? ⟨g, i, none⟩ = some (.string x) := by
  have hh := h
  obtain ⟨h1, h2⟩ := hh
  rcases h2 with ⟨hv, h0⟩ | ⟨g, cap, cur, hv, hg, r⟩
  · refine ⟨none, 0, 0, by rw [h0]; exact hv, fun hp => by omega, fun i x hx => ?_⟩
    have : ss = [] := List.length_eq_zero_iff.1 h0
    subst this; simp at hx
  · refine ⟨_, g, cap, hv, fun _ => rfl, fun i x hx => ?_⟩
    subst hv
    have hi : i < ss.length := (List.getElem?_eq_some_iff.1 hx).1
    have := World.ownsRow.cellAt (w := w) (g := g) (cap := cap) h i (by omega)
    rw [this]; simp [hx]

theorem one_any (b : Bool) (w : World) : Calls Try.prog 10 #[.bool b] w fun e w' => e = .returned (.int .i64 (if b then 1 else 0)) ∧ w' = w := by
  cases b
  all_goals
    go_enter Try.func10, Try.ntmps10
    go_wp2
    go_ret
    exact ⟨rfl, rfl⟩

theorem only_none (ao : Option Addr) (c : Nat) (code : ByteArray) (w : World) : Calls Try.prog 7 #[.slice ao 0 c, .bool false, .string code] w fun e w' => e = .returned (.bool true) ∧ w' = w := by
  go_enter Try.func7, Try.ntmps7
  go_wp2
  go_ret
  exact ⟨rfl, rfl⟩

theorem only_one (g c : Nat) (code : ByteArray) (w : World) (hc : w.cell? ⟨g, 0, none⟩ = some (.string code)) : Calls Try.prog 7 #[.slice (some ⟨g, 0, none⟩) 1 c, .bool true, .string code] w fun e w' => e = .returned (.bool true) ∧ w' = w := by
  go_enter Try.func7, Try.ntmps7
  go_wp2
  go_ret
  exact ⟨by simp, rfl⟩

def same (code s : ByteArray) : Bool := s.toList == code.toList
def cnt (ss : List ByteArray) (code : ByteArray) : Nat := ss.countP (same code)

theorem cnt_le (ss : List ByteArray) (code : ByteArray) : cnt ss code ≤ ss.length := List.countP_le_length
theorem cnt_snoc (ss : List ByteArray) (code : ByteArray) (k : Nat) (x : ByteArray) (h : ss[k]? = some x) : cnt (ss.take (k + 1)) code = cnt (ss.take k) code + if same code x then 1 else 0 := by
  unfold cnt
  obtain ⟨hk, rfl⟩ := List.getElem?_eq_some_iff.1 h
  rw [List.take_succ_eq_append_getElem hk, List.countP_append]
  simp [List.countP_cons]

set_option maxHeartbeats 400000 in
theorem count_any (ao : Option Addr) (g c : Nat) (ss : List ByteArray) (code : ByteArray) (w : World) (hn : ss.length ≤ 9) (hao : 0 < ss.length → ao = some ⟨g, 0, none⟩)
    (hc : ∀ i x, ss[i]? = some x → w.cell? ⟨g, i, none⟩ = some (.string x)) :
    Calls Try.prog 9 #[.slice ao ss.length c, .string code] w fun e w' => e = .returned (.int .i64 (cnt ss code)) ∧ w' = w := by
  by_cases h0 : ss.length = 0
  · have : ss = [] := List.length_eq_zero_iff.1 h0
    subst this
    go_enter Try.func9, Try.ntmps9
    go_wp2
    refine wp_loop_rounds 1 ?_
    rw [rounds_succ]
    go_wp2
    go_ret
    exact ⟨rfl, rfl⟩
  · obtain rfl := hao (by omega)
    clear hao
    go_enter Try.func9, Try.ntmps9
    go_wp2
    go_loop [5, 6] (fun n i => ∃ k : Nat, k ≤ ss.length ∧ i = .int .i64 k ∧ n = .int .i64 (cnt (ss.take k) code)) (fun _ i => ss.length - (intOf i).toNat)
    case atStart => exact ⟨0, Nat.zero_le _, rfl, rfl⟩
    case round =>
      obtain ⟨k, hk, rfl, rfl⟩ := hrel
      have hd := cnt_le (ss.take k) code
      have hl : (ss.take k).length ≤ k := List.length_take_le _ _
      by_cases hlt : k < ss.length
      · obtain ⟨x, hx⟩ : ∃ x, ss[k]? = some x := ⟨_, List.getElem?_eq_getElem hlt⟩
        have hcx := hc k x hx
        have HS : Hid (cnt (ss.take (k + 1)) code = cnt (ss.take k) code + if same code x then 1 else 0) := cnt_snoc ss code k x hx
        clear hx hc
        go_wp2
        all_goals
          go_round
          case rel => exact ⟨k + 1, by omega, by go_num, by rw [HS.out]; first | (rw [if_pos (by unfold same; assumption)]; go_num) | (rw [if_neg (by unfold same; simp [*])]; go_num)⟩
          case measure => simp [intOf]; omega
      · go_wp2
        go_ret
        exact ⟨ret_int (by rw [List.take_of_length_le (by omega)]), rfl⟩
/-- What is kept when 'drop' is left out. -/
def keep (drop : ByteArray) (ss : List ByteArray) : List ByteArray := ss.filter fun s => !same drop s

theorem keep_snoc (drop : ByteArray) (ss : List ByteArray) (k : Nat) (x : ByteArray) (h : ss[k]? = some x) : keep drop (ss.take (k + 1)) = keep drop (ss.take k) ++ if same drop x then [] else [x] := by
  unfold keep
  obtain ⟨hk, rfl⟩ := List.getElem?_eq_some_iff.1 h
  rw [List.take_succ_eq_append_getElem hk, List.filter_append]
  cases hb : same drop ss[k] <;> simp [hb]

theorem keep_at (drop : ByteArray) (ss : List ByteArray) (k : Nat) (x : ByteArray) (h : ss[k]? = some x) (hx : same drop x = false) : (keep drop ss)[(keep drop (ss.take k)).length]? = some x := by
  have e : keep drop ss = keep drop (ss.take (k + 1)) ++ keep drop (ss.drop (k + 1)) := by
    unfold keep; rw [← List.filter_append, List.take_append_drop]
  rw [e, keep_snoc drop ss k x h]
  simp [hx]

theorem keep_le (drop : ByteArray) (ss : List ByteArray) : (keep drop ss).length ≤ ss.length := List.length_filter_le _ _

set_option maxHeartbeats 400000 in
theorem filtered_any (ao : Option Addr) (g c : Nat) (ss : List ByteArray) (bo : Option Addr) (g2 c2 : Nat) (drop : ByteArray) (w : World) (hn : ss.length ≤ 9)
    (hao : 0 < ss.length → ao = some ⟨g, 0, none⟩) (hc : ∀ i x, ss[i]? = some x → w.cell? ⟨g, i, none⟩ = some (.string x))
    (hbo : 0 < (keep drop ss).length → bo = some ⟨g2, 0, none⟩) (hc2 : ∀ i x, (keep drop ss)[i]? = some x → w.cell? ⟨g2, i, none⟩ = some (.string x)) :
    Calls Try.prog 8 #[.slice ao ss.length c, .slice bo (keep drop ss).length c2, .string drop] w fun e w' => e = .returned (.bool true) ∧ ∃ n, w' = w.drewN n := by
  by_cases h0 : ss.length = 0
  · have : ss = [] := List.length_eq_zero_iff.1 h0
    subst this
    clear hao hbo hc hc2
    show Calls Try.prog 8 #[.slice ao 0 c, .slice bo 0 c2, .string drop] w _
    go_enter Try.func8, Try.ntmps8
    go_wp2
    refine wp_loop_rounds 1 ?_
    rw [rounds_succ]
    go_wp2
    go_ret
    exact ⟨rfl, 0, rfl⟩
  · obtain rfl := hao (by omega)
    clear hao
    have hkl := keep_le drop ss
    obtain ⟨m, hm⟩ : ∃ m, m = (keep drop ss).length := ⟨_, rfl⟩
    rw [← hm] at hbo hkl ⊢
    have HM : Hid (m = (keep drop ss).length) := hm
    clear hm
    by_cases hp : 0 < m
    case pos =>
      obtain rfl := hbo hp
      clear hbo
      go_enter Try.func8, Try.ntmps8
      go_wp2
      go_loopw [7, 8] (fun n i wr => ∃ k j nq : Nat, k ≤ ss.length ∧ i = .int .i64 k ∧ n = .int .i64 j ∧ j = (keep drop (ss.take k)).length ∧ wr = w.drewN nq) (fun _ i _ => ss.length - (intOf i).toNat)
      case atStart => exact ⟨0, 0, 0, Nat.zero_le _, rfl, rfl, rfl, rfl⟩
      case round =>
        obtain ⟨k, j, nq, hk, rfl, rfl, hj, rfl⟩ := hrel
        have hd := keep_le drop (ss.take k)
        have hl : (ss.take k).length ≤ k := List.length_take_le _ _
        have hjl : j ≤ ss.length := by omega
        by_cases hlt : k < ss.length
        · obtain ⟨x, hx⟩ : ∃ x, ss[k]? = some x := ⟨_, List.getElem?_eq_getElem hlt⟩
          have hcx : w.cell? ⟨g, k, none⟩ = some (.string x) := hc k x hx
          have HS : Hid (keep drop (ss.take (k + 1)) = keep drop (ss.take k) ++ if same drop x then [] else [x]) := keep_snoc drop ss k x hx
          have HJ : Hid (j = (keep drop (ss.take k)).length) := hj
          by_cases hsx : same drop x = true
          · have hs' : (x.toList == drop.toList) = true := hsx
            have HX : Hid (same drop x = true) := hsx
            clear hx hc hc2 hj hd hsx
            go_wp2
            go_roundw
            case rel => exact ⟨k + 1, j, nq, by omega, by go_num, rfl, by rw [HS.out, if_pos HX.out, HJ.out]; simp, rfl⟩
            case measure => simp [intOf]; omega
          · have hsx2 : same drop x = false := by simpa using hsx
            have hs' : (x.toList == drop.toList) = false := hsx2
            have hat := keep_at drop ss k x hx hsx2
            rw [← hj] at hat
            have hjm : j < m := by rw [HM.out]; exact (List.getElem?_eq_some_iff.1 hat).1
            have hcy : w.cell? ⟨g2, j, none⟩ = some (.string x) := hc2 j x hat
            have HX : Hid (same drop x = false) := hsx2
            have hjm' : (j : Int) < (m : Int) := by omega
            have hkl' : (k : Int) < (ss.length : Int) := by omega
            clear hx hc hc2 hj hd hsx hsx2 hat
            go_wp2
            go_quiet (fail)
            go_wp2
            go_roundw
            case rel => exact ⟨k + 1, j + 1, _, by omega, by go_num, by go_num, by rw [HS.out, HX.out, HJ.out]; simp, rfl⟩
            case measure => simp [intOf]; omega
        · have hjm : j = m := by rw [hj, HM.out, List.take_of_length_le (by omega)]
          subst hjm
          clear hc hc2 hj hd
          go_wp2
          go_ret
          exact ⟨by simp, nq, rfl⟩
    case neg =>
      clear hbo
      go_enter Try.func8, Try.ntmps8
      go_wp2
      go_loop [7, 8] (fun n i => ∃ k j : Nat, k ≤ ss.length ∧ i = .int .i64 k ∧ n = .int .i64 j ∧ j = (keep drop (ss.take k)).length) (fun _ i => ss.length - (intOf i).toNat)
      case atStart => exact ⟨0, 0, Nat.zero_le _, rfl, rfl, rfl⟩
      case round =>
        obtain ⟨k, j, hk, rfl, rfl, hj⟩ := hrel
        have hd := keep_le drop (ss.take k)
        have hl : (ss.take k).length ≤ k := List.length_take_le _ _
        have hjl : j ≤ ss.length := by omega
        by_cases hlt : k < ss.length
        · obtain ⟨x, hx⟩ : ∃ x, ss[k]? = some x := ⟨_, List.getElem?_eq_getElem hlt⟩
          have hcx : w.cell? ⟨g, k, none⟩ = some (.string x) := hc k x hx
          have HS : Hid (keep drop (ss.take (k + 1)) = keep drop (ss.take k) ++ if same drop x then [] else [x]) := keep_snoc drop ss k x hx
          have HJ : Hid (j = (keep drop (ss.take k)).length) := hj
          have hsx : same drop x = true := by
            cases hsx2 : same drop x
            · exfalso
              have hat := keep_at drop ss k x hx hsx2
              have := (List.getElem?_eq_some_iff.1 hat).1
              have := HM.out
              omega
            · rfl
          have hs' : (x.toList == drop.toList) = true := hsx
          have HX : Hid (same drop x = true) := hsx
          clear hx hc hc2 hj hd hsx
          go_wp2
          go_round
          case rel => exact ⟨k + 1, j, by omega, by go_num, rfl, by rw [HS.out, if_pos HX.out, HJ.out]; simp⟩
          case measure => simp [intOf]; omega
        · have hjm : j = m := by rw [hj, HM.out, List.take_of_length_le (by omega)]
          subst hjm
          clear hc hc2 hj hd
          go_wp2
          go_ret
          exact ⟨by simp, 0, rfl⟩
end Go.Proofs.Qxb6619216a
