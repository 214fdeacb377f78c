/-
  Seat b6617319aD: the contracts in the form in which the two laws meet them.
-/
import Derived.Test.Qxb6617319aDoorStats
import Derived.Lib.SlBytesRow
namespace Go.Proofs.Qxb6617319aDoor
open Go.RowKit

theorem RB.left {w : World} {b off : Nat} {x y : List UInt8} (h : RB w (some ⟨b, off, none⟩) (x ++ y)) : RB w (some ⟨b, off, none⟩) x := by
  rcases h with h | ⟨b', off', h1, h2⟩
  · exact .inl (List.append_eq_nil_iff.1 h).1
  · cases h1
    exact .inr ⟨b, off, rfl, fun j hj => by rw [h2 j (by simp; omega), byteAt_left x y j hj]⟩
theorem RB.right {w : World} {b off : Nat} {x y : List UInt8} (h : RB w (some ⟨b, off, none⟩) (x ++ y)) : RB w (some ⟨b, off + x.length, none⟩) y := by
  rcases h with h | ⟨b', off', h1, h2⟩
  · exact .inl (List.append_eq_nil_iff.1 h).2
  · cases h1
    exact .inr ⟨b, _, rfl, fun j hj => by rw [Nat.add_assoc, h2 (x.length + j) (by simp; omega), byteAt_right]⟩

/-- 'string(..)' of a slice that reads as y. -/
theorem conv_rb {w : World} {b off : Nat} {y : List UInt8} (h : RB w (some ⟨b, off, none⟩) y) (cap : Nat) :
    (convert 34 9 (.slice (some ⟨b, off, none⟩) y.length cap)).run Tryd.prog w = .ok (.string ⟨y.toArray⟩) w := by
  have hb : Lib.Bytes w b off ⟨y.toArray⟩ := fun i hi => by
    have hi' : i < y.length := by simpa [ByteArray.size] using hi
    rcases h with h | ⟨b', off', h1, h2⟩
    · subst h; simp at hi'
    · cases h1
      rw [h2 i hi']
      have e : byteAt y i = (((⟨y.toArray⟩ : ByteArray)[i]'hi).toNat : Int) := by
        have : (⟨y.toArray⟩ : ByteArray)[i]'hi = y[i] := rfl
        rw [this]; simp [byteAt, hi']
      rw [e]
  exact Lib.run_convert_whole (P := Tryd.prog) w 34 5 9 Tryd.underlying34 Tryd.underlying5 Tryd.underlying9 b off ⟨y.toArray⟩ hb cap

theorem stats_at (B n N : Nat) (sv : Value) (bs : List UInt8) (xs : Nat → Nat) (hx : ∀ i, xs i < 18446744073709551616) (w : World) (hown : w.ownsRow B 5 1 sv n (Lib.byteCells bs)) (hn : bs.length = n) (hN : n + (line xs 5).length = N) (hBw : B ≤ w.heap.size) (hlim : n ≤ 2000000) (htab : Tab w) (hg : glob < B) :
    Calls Tryd.prog 16 #[sv, st xs] w fun e w' => ∃ g cap, e = .returned (.slice (some ⟨g, 0, none⟩) N cap) ∧ RB w' (some ⟨g, 0, none⟩) (bs ++ line xs 5) ∧ N ≤ cap ∧ cap ≤ maxLen ∧ Below B w w' ∧ Lib.OthersKept 5 none w w' := by
  refine (stats_any B n sv bs xs hx w hown hBw hlim htab hg).mono fun e w' ⟨v', he, ho, hb, hk⟩ => ?_
  rw [hN] at ho
  have hp := line_pos xs 5
  have ho' := ho
  obtain ⟨_, h0 | ⟨g, cap, cur, hv, _, _, h1, h2, _⟩⟩ := ho'
  · omega
  · subst hv
    exact ⟨g, cap, he, RB.of_own ho (by rw [List.length_append, hn, hN]), h1, h2, hb, hk⟩

theorem count_at (ao : Option Addr) (n c : Nat) (bs : List UInt8) (x : Int) (w : World) (hn : bs.length = n) (h0 : 0 < n) (hl : n ≤ 1073741824) (ha : RB w ao bs) (hx : 1 + (blanks bs n : Int) = x) :
    Calls Tryd.prog 18 #[.slice ao n c] w fun e w' => e = .returned (.int .i64 x) ∧ w' = w := by
  subst hx; exact count_any ao n c bs w hn h0 hl ha

theorem token_at (ao : Option Addr) (n c t s e : Nat) (T S E : Int) (bs : List UInt8) (w : World) (hn : bs.length = n) (hl : n ≤ 1073741824) (ht : t ≤ 1000) (ha : RB w ao bs) (tk : Tok bs t s e) (hT : (t : Int) = T) (hS : (s : Int) = S) (hE : (e : Int) = E) :
    Calls Tryd.prog 19 #[.slice ao n c, .int .i64 T] w fun r w' => r = .returned (.tuple #[.int .i64 S, .int .i64 E]) ∧ w' = w := by
  subst hT; subst hS; subst hE
  have h := token_any ao n c t e bs w hn hl ht ha (by rw [← hn]; exact tk.en) tk.bl (by rw [← hn]; exact tk.nd)
  rwa [tk.bg] at h
end Go.Proofs.Qxb6617319aDoor
