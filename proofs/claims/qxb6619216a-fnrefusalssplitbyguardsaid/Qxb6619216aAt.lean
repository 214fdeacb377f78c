/-
  Seat b6619216a: the contracts in the form in which the laws' walks meet them: lengths as plain numbers.
-/
import Derived.Test.Qxb6619216aHelps
namespace Go.Proofs.Qxb6619216a
open Go.RowKit

/-- A slice at 'ao' holds the strings ss in the world w (its block: g). -/
def Sees (w : World) (ao : Option Addr) (g : Nat) (ss : List ByteArray) : Prop :=
  (0 < ss.length → ao = some ⟨g, 0, none⟩) ∧ ∀ i x, ss[i]? = some x → w.cell? ⟨g, i, none⟩ = some (.string x)

theorem Sees.later {w w' : World} {ao : Option Addr} {g : Nat} {ss : List ByteArray} (h : Sees w ao g ss) (hb : Below w.heap.size w w') : Sees w' ao g ss :=
  ⟨h.1, fun i x hx => by
    have := h.2 i x hx
    rw [hb.cell (World.block_lt_of_cell? w _ this)]
    exact this⟩

theorem Sees.drewN {w : World} {ao : Option Addr} {g : Nat} {ss : List ByteArray} (h : Sees w ao g ss) (n : Nat) : Sees (w.drewN n) ao g ss := h

theorem zz_at (a r p q : Bool) (L : List ByteArray) (n : Nat) (hL : refs a r p q = L) (hn : L.length = n) (w : World) :
    Calls Try.prog 6 #[.bool a, .bool r, .bool p, .bool q] w fun e w' => ∃ ao g c, e = .returned (.slice ao n c) ∧ Sees w' ao g L ∧ Below w.heap.size w w' := by
  subst hL; subst hn
  refine (zzrefusals_any a r p q w).mono fun e w' ⟨v, he, ho, hb⟩ => ?_
  obtain ⟨ao, g, c, hv, h1, h2⟩ := ho.view
  exact ⟨ao, g, c, by rw [he, hv], ⟨h1, h2⟩, hb⟩

theorem count_at (ao : Option Addr) (g c : Nat) (ss : List ByteArray) (code : ByteArray) (n : Nat) (x : Int) (w : World) (hn : ss.length = n) (h9 : n ≤ 9) (hx : (cnt ss code : Int) = x) (hs : Sees w ao g ss) :
    Calls Try.prog 9 #[.slice ao n c, .string code] w fun e w' => e = .returned (.int .i64 x) ∧ w' = w := by
  subst hn; subst hx
  exact count_any ao g c ss code w h9 hs.1 hs.2

theorem filtered_at (ao : Option Addr) (g c : Nat) (ss : List ByteArray) (bo : Option Addr) (g2 c2 : Nat) (pt : List ByteArray) (drop : ByteArray) (n m : Nat) (w : World) (hn : ss.length = n) (h9 : n ≤ 9) (hk : keep drop ss = pt) (hm : pt.length = m)
    (hs : Sees w ao g ss) (hs2 : Sees w bo g2 pt) :
    Calls Try.prog 8 #[.slice ao n c, .slice bo m c2, .string drop] w fun e w' => e = .returned (.bool true) ∧ ∃ n, w' = w.drewN n := by
  subst hn; subst hk; subst hm
  exact filtered_any ao g c ss bo g2 c2 drop w h9 hs.1 hs.2 hs2.1 hs2.2

theorem one_at (b : Bool) (x : Int) (hx : (if b then 1 else 0 : Int) = x) (w : World) : Calls Try.prog 10 #[.bool b] w fun e w' => e = .returned (.int .i64 x) ∧ w' = w := by
  subst hx; exact one_any b w

/-- zzOnlyCode, where the slice holds the code alone or nothing. -/
theorem only_at (ao : Option Addr) (g c : Nat) (b : Bool) (code : ByteArray) (n : Nat) (w : World) (hn : (if b then 1 else 0) = n) (hs : Sees w ao g (if b then [code] else [])) :
    Calls Try.prog 7 #[.slice ao n c, .bool b, .string code] w fun e w' => e = .returned (.bool true) ∧ w' = w := by
  subst hn
  cases b
  · exact only_none ao c code w
  · obtain ⟨h1, h2⟩ := hs
    obtain rfl := h1 (by simp)
    exact only_one g c code w (h2 0 code (by simp))

theorem keep_pub (a r q : Bool) : keep unauth (refs a r false q) = refs a r true q := by
  cases a <;> cases r <;> cases q <;> kernel_rfl
theorem keep_probe (a r p : Bool) : keep limited (refs a r p false) = refs a r p true := by
  cases a <;> cases r <;> cases p <;> kernel_rfl
theorem cnt_u (a r p q : Bool) : cnt (refs a r p q) unauth = if a && !p then 1 else 0 := by
  cases a <;> cases r <;> cases p <;> cases q <;> kernel_rfl
theorem cnt_r (a r p q : Bool) : cnt (refs a r p q) limited = if r && !q then 1 else 0 := by
  cases a <;> cases r <;> cases p <;> cases q <;> kernel_rfl
theorem refs_len (a r p q : Bool) : (refs a r p q).length = (if a && !p then 1 else 0) + if r && !q then 1 else 0 := by
  cases a <;> cases r <;> cases p <;> cases q <;> rfl

#print axioms keep_pub
end Go.Proofs.Qxb6619216a
