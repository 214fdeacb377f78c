/-
  Seat b6617319aD: zzTokenAt, zzIndexByte, zzParseCanon.
-/
import Derived.Test.Qxb6617319aDoorBytes
namespace Go.Proofs.Qxb6617319aDoor
open Go.RowKit

theorem ret_two {k : IntKind} {a b : Int} {v : Value} (h : a = b) : Ending.returned (.tuple #[.int k a, v]) = .returned (.tuple #[.int k b, v]) := by rw [h]

/-- Where the piece that holds place j begins. -/
def begins (bs : List UInt8) : Nat → Nat
  | 0 => 0
  | j + 1 => if byteAt bs j = 32 then j + 1 else begins bs j
theorem begins_yes (bs : List UInt8) (j : Nat) (h : byteAt bs j = 32) : begins bs (j + 1) = j + 1 := by simp [begins, h]
theorem begins_no (bs : List UInt8) (j : Nat) (h : ¬ byteAt bs j = 32) : begins bs (j + 1) = begins bs j := by simp [begins, h]
theorem begins_le (bs : List UInt8) (j : Nat) : begins bs j ≤ j := by
  induction j with
  | zero => exact Nat.le_refl _
  | succ j ih => simp only [begins]; split <;> omega

set_option maxHeartbeats 2000000 in
/-- zzTokenAt: the t-th piece ends at place i. -/
theorem token_any (ao : Option Addr) (n c t i : Nat) (bs : List UInt8) (w : World) (hn : bs.length = n) (hl : n ≤ 1073741824) (ht : t ≤ 1000) (ha : RB w ao bs) (hin : i ≤ n)
    (hb : ∀ j, j < i → byteAt bs j = 32 → blanks bs j < t) (hend : i < n → byteAt bs i = 32 ∧ blanks bs i = t) :
    Calls Tryd.prog 19 #[.slice ao n c, .int .i64 t] w fun e w' => e = .returned (.tuple #[.int .i64 (begins bs i), .int .i64 i]) ∧ w' = w := by
  have HN : Hid (bs.length = n) := hn
  have HB : Hid (∀ j, j < i → byteAt bs j = 32 → blanks bs j < t) := hb
  have HE : Hid (i < n → byteAt bs i = 32 ∧ blanks bs i = t) := hend
  clear hn hb hend
  go_enter Tryd.func19, Tryd.ntmps19
  go_wp2
  go_loop [1, 6, 7] (fun r s k => ∃ (j : Nat) (rr ss : Int), j ≤ i ∧ k = .int .i64 j ∧ r = .int .i64 rr ∧ s = .int .i64 ss ∧ Hid (rr = (t : Int) - (blanks bs j : Int)) ∧ Hid (ss = (begins bs j : Int)) ∧ rr ≤ 1000 ∧ -1073741824 ≤ rr) (fun _ _ k => n - (intOf k).toNat)
  case atStart => exact ⟨0, t, 0, Nat.zero_le _, rfl, rfl, rfl, by show (t : Int) = t - (0 : Nat); omega, rfl, by omega, by omega⟩
  case round =>
    obtain ⟨j, rr, ss, hj, rfl, rfl, rfl, hr, hs, hr1, hr2⟩ := hrel
    by_cases hji : j < i
    · have hlt : j < n := by omega
      obtain ⟨b, off, rfl, hc⟩ := ha.at HN.out hlt
      obtain ⟨x, hx⟩ : ∃ x, x = byteAt bs j := ⟨_, rfl⟩
      have HX : Hid (x = byteAt bs j) := hx
      rw [← hx] at hc
      clear hx
      by_cases h32 : x = 32
      · have hq : (x == 32) = true := by simpa using h32
        have e32 : byteAt bs j = 32 := by rw [← HX.out]; exact h32
        have hpos : 1 ≤ rr := by have := HB.out j hji e32; rw [hr.out]; omega
        have hq2 : (rr == 0) = false := by simp; omega
        have E32 : Hid (byteAt bs j = 32) := e32
        clear h32 e32
        go_wp2
        go_round
        case rel => exact ⟨j + 1, rr - 1, (j : Int) + 1, by omega, by go_num, rfl, rfl, by show rr - 1 = _; rw [hr.out, blanks_yes bs j E32.out]; omega, by show (j : Int) + 1 = _; rw [begins_yes bs j E32.out]; omega, by omega, by omega⟩
        case measure => simp [intOf]; omega
      · have hq : (x == 32) = false := by simpa using h32
        have E32 : Hid (¬ byteAt bs j = 32) := by show ¬ _; rw [← HX.out]; exact h32
        clear h32
        go_wp2
        go_round
        case rel => exact ⟨j + 1, rr, ss, by omega, by go_num, rfl, rfl, by show rr = _; rw [hr.out, blanks_no bs j E32.out], by show ss = _; rw [hs.out, begins_no bs j E32.out], by omega, by omega⟩
        case measure => simp [intOf]; omega
    · obtain rfl : i = j := by omega
      by_cases hlt : i < n
      · obtain ⟨b, off, rfl, hc⟩ := ha.at HN.out hlt
        obtain ⟨e1, e2⟩ := HE.out hlt
        rw [e1] at hc
        have hq : rr = 0 := by rw [hr.out, e2]; omega
        subst hq
        have E : Hid (ss = (begins bs i : Int)) := hs
        clear e1 e2 hs hr
        go_wp2
        go_ret2
        exact ⟨ret_two E.out, rfl⟩
      · obtain rfl : n = i := by omega
        have E : Hid (ss = (begins bs n : Int)) := hs
        clear hs hr
        go_wp2
        go_ret2
        exact ⟨ret_two E.out, rfl⟩

set_option maxHeartbeats 1000000 in
/-- zzIndexByte: the byte's first place is i. -/
theorem index_any (ao : Option Addr) (n c i : Nat) (y : Int) (bs : List UInt8) (w : World) (hn : bs.length = n) (hl : n ≤ 1073741824) (ha : RB w ao bs) (hin : i < n)
    (hb : ∀ j, j < i → ¬ byteAt bs j = y) (hy : byteAt bs i = y) :
    Calls Tryd.prog 25 #[.slice ao n c, .int .u8 y] w fun e w' => e = .returned (.int .i64 i) ∧ w' = w := by
  have HN : Hid (bs.length = n) := hn
  have HB : Hid (∀ j, j < i → ¬ byteAt bs j = y) := hb
  have HY : Hid (byteAt bs i = y) := hy
  clear hn hb hy
  go_enter Tryd.func25, Tryd.ntmps25
  go_wp2
  go_loop [5] (fun k => ∃ j : Nat, j ≤ i ∧ k = .int .i64 j) (fun k => n - (intOf k).toNat)
  case atStart => exact ⟨0, Nat.zero_le _, rfl⟩
  case round =>
    obtain ⟨j, hj, rfl⟩ := hrel
    have hlt : j < n := by omega
    obtain ⟨b, off, rfl, hc⟩ := ha.at HN.out hlt
    by_cases hji : j < i
    · obtain ⟨x, hx⟩ : ∃ x, x = byteAt bs j := ⟨_, rfl⟩
      rw [← hx] at hc
      have hq : (x == y) = false := by have := HB.out j hji; rw [← hx] at this; simpa using this
      clear hx
      go_wp2
      go_round
      case rel => exact ⟨j + 1, by omega, by go_num⟩
      case measure => simp [intOf]; omega
    · obtain rfl : i = j := by omega
      rw [HY.out] at hc
      go_wp2
      go_ret
      exact ⟨rfl, rfl⟩

set_option maxHeartbeats 2000000 in
/-- zzParseCanon, at a canonical numeral: 'val j' is the number that the first j digits give. -/
theorem parse_any (s : ByteArray) (val : Nat → Int) (w : World) (h0 : 0 < s.size) (hl : s.size ≤ 1000) (hv0 : val 0 = 0)
    (hd : ∀ j (h : j < s.size), 48 ≤ ((s[j]'h).toNat : Int) ∧ ((s[j]'h).toNat : Int) ≤ 57 ∧ val (j + 1) = val j * 10 + (((s[j]'h).toNat : Int) - 48) ∧ 0 ≤ val j ∧ val (j + 1) ≤ 18446744073709551615)
    (hz : 1 < s.size → ¬ (((s[0]'h0).toNat : Int) = 48)) :
    Calls Tryd.prog 11 #[.string s] w fun e w' => e = .returned (.tuple #[.int .u64 (val s.size), .bool true]) ∧ w' = w := by
  have HD : Hid (∀ j (h : j < s.size), 48 ≤ ((s[j]'h).toNat : Int) ∧ ((s[j]'h).toNat : Int) ≤ 57 ∧ val (j + 1) = val j * 10 + (((s[j]'h).toNat : Int) - 48) ∧ 0 ≤ val j ∧ val (j + 1) ≤ 18446744073709551615) := hd
  have HV : Hid (val 0 = 0) := hv0
  obtain ⟨x0, hx0⟩ : ∃ x : Int, ((s[0]'h0).toNat : Int) = x := ⟨_, rfl⟩
  have hz' : (1 : Int) < (s.size : Int) → (x0 == 48) = false := fun h => by have := hz (by omega); rw [hx0] at this; simpa using this
  clear hd hv0 hz
  rcases (show (s.size : Int) ≤ 1 ∨ (1 : Int) < (s.size : Int) by omega) with h1 | h1
  all_goals
    first
    | (have hz := hz' h1; clear hz')
    | clear hz'
    go_enter Tryd.func11, Tryd.ntmps11
    go_wp2
    clear hx0
    go_loop [4, 5] (fun t k => ∃ (j : Nat) (v : Int), j ≤ s.size ∧ k = .int .i64 j ∧ t = .int .u64 v ∧ Hid (v = val j)) (fun _ k => s.size - (intOf k).toNat)
    case atStart => exact ⟨0, 0, Nat.zero_le _, rfl, rfl, HV.out.symm⟩
    case round =>
      obtain ⟨j, v, hj, rfl, rfl, hv⟩ := hrel
      by_cases hlt : j < s.size
      · obtain ⟨d1, d2, d3, d4, d5⟩ := HD.out j hlt
        obtain ⟨x, hx⟩ : ∃ x : Int, ((s[j]'hlt).toNat : Int) = x := ⟨_, rfl⟩
        rw [hx] at d1 d2 d3
        have D3 : Hid (val (j + 1) = v * 10 + (x - 48)) := by show _ = _; rw [d3, hv.out]
        have b0 : 0 ≤ v := by rw [hv.out]; exact d4
        have b1 : v * 10 + (x - 48) ≤ 18446744073709551615 := by rw [← D3.out]; exact d5
        clear d3 d4 d5 hv
        go_wp2
        first
        | (go_round
           case rel => exact ⟨j + 1, v * 10 + (x - 48), by omega, by go_num, rfl, D3.out.symm⟩
           case measure => simp [intOf]; omega)
        | (refine ⟨⟨_, _, _, _, ⟨j + 1, by omega, rfl, v * 10 + (x - 48), rfl, D3.out.symm⟩, rfl, rfl, rfl, by go_num⟩, ?_⟩
           simp [intOf]; omega)
      · obtain rfl : j = s.size := by omega
        go_wp2
        go_ret2
        exact ⟨ret_two hv.out, rfl⟩
end Go.Proofs.Qxb6617319aDoor
