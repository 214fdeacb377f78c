/-
  Seat b6617319aD: counters, ZZcounters, ZZCounterKey, zzStatsField, zzWithField, the size guards, strconv.AppendUint.
-/
import Derived.Test.Qxb6617319aDoorPlain
import Derived.Test.Qxb6617319aDoorShelf
import Derived.Deep.RegionHeld3
import Derived.BigRegion
namespace Go.Proofs.Qxb6617319aDoor
open Go.RowKit

/-- The key as a Go string. -/
def kb (k : Nat) : ByteArray := ⟨(key k).toArray⟩
def cells10 (bs : Nat) : Array Value := #[.string (kb 0), .pointer (some ⟨bs, 0, none⟩), .string (kb 1), .pointer (some ⟨bs, 1, none⟩), .string (kb 2), .pointer (some ⟨bs, 2, none⟩), .string (kb 3), .pointer (some ⟨bs, 3, none⟩), .string (kb 4), .pointer (some ⟨bs, 4, none⟩)]

set_option maxHeartbeats 1000000 in
theorem counters_any (bs : Nat) (w : World) :
    Calls Tryd.prog 29 #[.pointer (some ⟨bs, 0, none⟩)] w fun e w' => e = .returned (.slice (some ⟨w.heap.size, 0, none⟩) 5 5) ∧ w' = (w.alloc (.cells (cells10 bs) 51)).drew := by
  go_enter Tryd.func29, Tryd.ntmps29
  go_wp2
  go_region_held3 (fun _ => True) (trivial) (fail)
  go_wp2
  go_ret
  exact ⟨rfl, rfl⟩

theorem zzcounters_any (bs : Nat) (w : World) :
    Calls Tryd.prog 20 #[.pointer (some ⟨bs, 0, none⟩)] w fun e w' => e = .returned (.slice (some ⟨w.heap.size, 0, none⟩) 5 5) ∧ w' = (w.alloc (.cells (cells10 bs) 51)).drew := by
  go_enter Tryd.func20, Tryd.ntmps20
  go_wp2_with fail
  refine (counters_any bs _).mono ?_
  rintro e w' ⟨rfl, rfl⟩
  go_wp2_with fail
  go_ret
  exact ⟨rfl, rfl⟩

theorem key_any (s : ByteArray) (p : Option Addr) (w : World) :
    Calls Tryd.prog 21 #[.agg #[.string s, .pointer p]] w fun e w' => e = .returned (.string s) ∧ Below w.heap.size w w' := by
  go_enter Tryd.func21, Tryd.ntmps21
  go_wp2
  go_ret
  exact ⟨rfl, (Below.refl _ _).alloc (Nat.le_refl _) _⟩

/-- A Stats value of the five numbers. -/
abbrev st (xs : Nat → Nat) : Value := .agg #[.int .u64 (xs 0), .int .u64 (xs 1), .int .u64 (xs 2), .int .u64 (xs 3), .int .u64 (xs 4)]

theorem field_any (xs : Nat → Nat) (k : Nat) (hk : k < 5) (w : World) :
    Calls Tryd.prog 22 #[st xs, .int .i64 k] w fun e w' => e = .returned (.int .u64 (xs k)) ∧ Below w.heap.size w w' := by
  match k, hk with
  | 0, _ => 
    go_enter Tryd.func22, Tryd.ntmps22
    go_wp2
    go_ret
    exact ⟨rfl, (Below.refl _ _).alloc (Nat.le_refl _) _⟩
  | 1, _ => 
    go_enter Tryd.func22, Tryd.ntmps22
    go_wp2
    go_ret
    exact ⟨rfl, (Below.refl _ _).alloc (Nat.le_refl _) _⟩
  | 2, _ => 
    go_enter Tryd.func22, Tryd.ntmps22
    go_wp2
    go_ret
    exact ⟨rfl, (Below.refl _ _).alloc (Nat.le_refl _) _⟩
  | 3, _ => 
    go_enter Tryd.func22, Tryd.ntmps22
    go_wp2
    go_ret
    exact ⟨rfl, (Below.refl _ _).alloc (Nat.le_refl _) _⟩
  | 4, _ => 
    go_enter Tryd.func22, Tryd.ntmps22
    go_wp2
    go_ret
    exact ⟨rfl, (Below.refl _ _).alloc (Nat.le_refl _) _⟩

/-- xs with its k-th number set to v. -/
def setAt (xs : Nat → Nat) (k v : Nat) (i : Nat) : Nat := if i = k then v else xs i

set_option maxHeartbeats 1000000 in
theorem with_any (xs : Nat → Nat) (k v : Nat) (hk : k < 5) (w : World) :
    Calls Tryd.prog 24 #[st xs, .int .i64 k, .int .u64 v] w fun e w' => e = .returned (st (setAt xs k v)) ∧ Below w.heap.size w w' := by
  match k, hk with
  | 0, _ => 
    go_enter Tryd.func24, Tryd.ntmps24
    go_wp2
    simp [bodyPost, results, Tryd.results24, go_sem, setAt]
    exact ((Below.refl _ _).alloc (Nat.le_refl _) _).alloc (by simp) _
  | 1, _ => 
    go_enter Tryd.func24, Tryd.ntmps24
    go_wp2
    simp [bodyPost, results, Tryd.results24, go_sem, setAt]
    exact ((Below.refl _ _).alloc (Nat.le_refl _) _).alloc (by simp) _
  | 2, _ => 
    go_enter Tryd.func24, Tryd.ntmps24
    go_wp2
    simp [bodyPost, results, Tryd.results24, go_sem, setAt]
    exact ((Below.refl _ _).alloc (Nat.le_refl _) _).alloc (by simp) _
  | 3, _ => 
    go_enter Tryd.func24, Tryd.ntmps24
    go_wp2
    simp [bodyPost, results, Tryd.results24, go_sem, setAt]
    exact ((Below.refl _ _).alloc (Nat.le_refl _) _).alloc (by simp) _
  | 4, _ => 
    go_enter Tryd.func24, Tryd.ntmps24
    go_wp2
    simp [bodyPost, results, Tryd.results24, go_sem, setAt]
    exact ((Below.refl _ _).alloc (Nat.le_refl _) _).alloc (by simp) _

theorem bytes14_yes (xs : Nat → Nat) (ao : Option Addr) (n k : Nat) (h : n ≤ 1048576) (w : World) :
    Calls Tryd.prog 14 #[.slice ao n k, st xs] w fun e w' => e = .returned (.bool true) ∧ Below w.heap.size w w' := by
  go_enter Tryd.func14, Tryd.ntmps14
  go_wp2
  go_ret
  exact ⟨rfl, (Below.refl _ _).alloc (Nat.le_refl _) _⟩
theorem bytes14_no (xs : Nat → Nat) (ao : Option Addr) (n k : Nat) (h : 1048576 < n) (w : World) :
    Calls Tryd.prog 14 #[.slice ao n k, st xs] w fun e w' => e = .returned (.bool false) ∧ Below w.heap.size w w' := by
  go_enter Tryd.func14, Tryd.ntmps14
  go_wp2
  go_ret
  exact ⟨rfl, (Below.refl _ _).alloc (Nat.le_refl _) _⟩
theorem bytes23_yes (xs : Nat → Nat) (ao : Option Addr) (n k : Nat) (j v : Int) (h : n ≤ 1048576) (w : World) :
    Calls Tryd.prog 23 #[.slice ao n k, st xs, .int .i64 j, .int .u64 v] w fun e w' => e = .returned (.bool true) ∧ Below w.heap.size w w' := by
  go_enter Tryd.func23, Tryd.ntmps23
  go_wp2
  go_ret
  exact ⟨rfl, (Below.refl _ _).alloc (Nat.le_refl _) _⟩
theorem bytes23_no (xs : Nat → Nat) (ao : Option Addr) (n k : Nat) (j v : Int) (h : 1048576 < n) (w : World) :
    Calls Tryd.prog 23 #[.slice ao n k, st xs, .int .i64 j, .int .u64 v] w fun e w' => e = .returned (.bool false) ∧ Below w.heap.size w w' := by
  go_enter Tryd.func23, Tryd.ntmps23
  go_wp2
  go_ret
  exact ⟨rfl, (Below.refl _ _).alloc (Nat.le_refl _) _⟩

/-- The table of powers, as the row lists it. -/
def Tab (w : World) : Prop := Lib.TabIs Tryd.prog w powName .u64 Lib.pow10Tab

theorem appendUint_any (B n u : Nat) (hu64 : u < 18446744073709551616) (sv : Value) (xs : List Value) (w : World) (hown : w.ownsRow B 5 1 sv n xs) (hBw : B ≤ w.heap.size) (hlim : n + 20 ≤ 140737488355328) (htab : Tab w) :
    Calls Tryd.prog 28 #[sv, .int .u64 u, .int .i64 10] w fun e w' => ∃ v', e = .returned v' ∧ w'.ownsRow B 5 1 v' (n + (Lib.decDigits u).length) (xs ++ Lib.byteCells (Lib.decDigits u)) ∧ Below B w w' ∧ Lib.OthersKept 5 none w w' := by
  go_enter Tryd.func28, Tryd.ntmps28
  go_wp2_with fail
  refine (Tryd.internal_strconv_AppendUint_10 B n u hu64 sv xs _ hown hBw hlim htab).mono ?_
  rintro e w' ⟨v', rfl, h1, h2, h3⟩
  go_wp2_with fail
  go_ret
  exact ⟨v', rfl, h1, h2, h3⟩
end Go.Proofs.Qxb6617319aDoor
