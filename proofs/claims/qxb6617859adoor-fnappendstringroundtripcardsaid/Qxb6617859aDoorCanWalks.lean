/- The walks of the leaves: the size test, the digit test, canonicalInt. -/
import Derived.Test.Qxb6617859aDoorRows
import Derived.Test.Qxb6617859aDoorCanPlain
import Derived.WalkKit
import Derived.ProofKit
import Derived.Below
namespace Go.Proofs.Qxb6617859aDoor.Can
open Go.RowKit

/-- A slice of n bytes whose numbers are zs: empty, or its cells lie in a row. -/
def View (w : World) (ad : Option Addr) (n : Nat) (zs : List Int) : Prop :=
  zs.length = n ∧ (n = 0 ∨ ∃ b off, ad = some ⟨b, off, none⟩ ∧ b < w.heap.size ∧ ∀ i, i < n → w.cell? ⟨b, off + i, none⟩ = some (.int .u8 (zs.getD i 0)))

theorem bytes_any (ad : Option Addr) (n c : Nat) (i : Int) (w : World) (hn : n ≤ 9223372036854775807) :
    Calls Tryd.prog 5 #[.slice ad n c, .int .i64 i] w fun e w' => e = .returned (.bool (decide (n ≤ 1048576))) ∧ w' = w := by
  by_cases h : n ≤ 1048576
  · have h1 : decide (n ≤ 1048576) = true := decide_eq_true h
    rw [h1]
    clear h1
    go_enter Tryd.func5, Tryd.ntmps5
    go_wp2
    go_ret
    exact ⟨rfl, rfl⟩
  · have h1 : decide (n ≤ 1048576) = false := decide_eq_false h
    rw [h1]
    clear h1
    go_enter Tryd.func5, Tryd.ntmps5
    go_wp2
    go_ret
    exact ⟨rfl, rfl⟩

theorem dig_any (z : Int) (w : World) :
    Calls Tryd.prog 15 #[.int .u8 z] w fun e w' => e = .returned (.bool (dig z)) ∧ w' = w := by
  by_cases h : 48 ≤ z
  · by_cases h2 : z ≤ 57
    · have h1 : dig z = true := by simp [dig, h, h2]
      rw [h1]
      go_enter Tryd.func15, Tryd.ntmps15
      go_wp2
      go_ret
      exact ⟨rfl, rfl⟩
    · have h1 : dig z = false := by simp [dig, h2]
      rw [h1]
      go_enter Tryd.func15, Tryd.ntmps15
      go_wp2
      go_ret
      exact ⟨rfl, rfl⟩
  · have h1 : dig z = false := by simp [dig, h]
    rw [h1]
    go_enter Tryd.func15, Tryd.ntmps15
    go_wp2
    go_ret
    exact ⟨rfl, rfl⟩

end Go.Proofs.Qxb6617859aDoor.Can
