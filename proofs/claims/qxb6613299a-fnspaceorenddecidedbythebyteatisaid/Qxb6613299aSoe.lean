/-
  The contracts that both laws of this seat share: 'ZZspaceOrEnd' (6, it builds a parser and calls 'spaceOrEnd', 9); and the plain laws of what it answers.
-/
import Derived.Test.Qxb6613299aRows
import Derived.WalkKit
import Derived.ProofKit
namespace Go.Proofs.Qxb6613299a
open Go.RowKit

/-- What the byte test says. -/
def blankB (n : Nat) : Bool := n == 32 || n == 9 || n == 10
/-- What 'spaceOrEnd' answers over the text s at k. -/
def soeB (s : ByteArray) (k : Nat) : Bool := if h : k < s.size then blankB s[k].toNat else true

theorem soeB_end (s : ByteArray) (k : Nat) (h : ¬ k < s.size) : soeB s k = true := by
  unfold soeB
  rw [dif_neg h]

theorem soeB_at (s : ByteArray) (k : Nat) (h : k < s.size) : soeB s k = blankB s[k].toNat := by
  unfold soeB
  rw [dif_pos h]

theorem ret_bool {a b : Bool} (h : a = b) : Ending.returned (.bool a) = .returned (.bool b) := by rw [h]

theorem Grown.trans {A B C : World} (h : Grown A B) (k : Grown B C) : Grown A C :=
  ⟨World.keptBut_trans h.1 k.1, fun a => (k.2.1 a).trans (h.2.1 a), Nat.le_trans h.2.2 k.2.2⟩

theorem blank_int (n z k : Nat) (h : k < z) : (decide (z ≤ k) || (n : Int) == 32 || (n : Int) == 9 || (n : Int) == 10) = blankB n := by
  have h1 : decide (z ≤ k) = false := by simp; omega
  unfold blankB
  rw [h1, Bool.eq_iff_iff]
  simp
  omega

set_option maxHeartbeats 400000 in
theorem soe_nat (f s : ByteArray) (p l ls : Int) (k : Nat) (w : World) :
    Calls Try.prog 6 #[.string f, .string s, .int .i64 p, .int .i64 l, .int .i64 ls, .int .i64 k] w fun e w' => e = .returned (.bool (soeB s k)) ∧ w' = w.alloc (.cells #[.string f, .string s, .int .i64 p, .int .i64 l, .int .i64 ls] 29) := by
  by_cases h : k < s.size
  · have hb := soeB_at s k h
    have HB : Hid (soeB s k = blankB s[k].toNat) := hb
    clear hb
    go_enter Try.func6, Try.ntmps6
    go_wp2
    · have h1 : s[k].toNat = 32 := by omega
      go_ret
      exact ⟨ret_bool (by rw [HB.out, h1]; rfl), rfl⟩
    · have h1 : s[k].toNat = 9 := by omega
      go_ret
      exact ⟨ret_bool (by rw [HB.out, h1]; rfl), rfl⟩
    · go_ret
      exact ⟨ret_bool (by rw [HB.out]; exact blank_int _ _ _ h), rfl⟩
  · go_enter Try.func6, Try.ntmps6
    go_wp2
    go_ret
    exact ⟨ret_bool (by rw [soeB_end s k h]), rfl⟩

theorem soe_any (f s : ByteArray) (p l ls i : Int) (hi : 0 ≤ i) (w : World) :
    Calls Try.prog 6 #[.string f, .string s, .int .i64 p, .int .i64 l, .int .i64 ls, .int .i64 i] w fun e w' => e = .returned (.bool (soeB s i.toNat)) ∧ Grown w w' := by
  have h := soe_nat f s p l ls i.toNat w
  rw [Int.toNat_of_nonneg hi] at h
  refine h.mono ?_
  rintro e w' ⟨rfl, rfl⟩
  exact ⟨rfl, (Grown.refl _).alloc _ _⟩

/-- The same, where the answer is known to be g. -/
theorem soe_is (f s : ByteArray) (p l ls : Int) (k : Nat) (g : Bool) (hg : soeB s k = g) (w : World) :
    Calls Try.prog 6 #[.string f, .string s, .int .i64 p, .int .i64 l, .int .i64 ls, .int .i64 k] w fun e w' => e = .returned (.bool g) ∧ Below w.heap.size w w' := by
  refine (soe_nat f s p l ls k w).mono ?_
  rintro e w' ⟨rfl, rfl⟩
  exact ⟨ret_bool hg, (Below.refl _ _).alloc (Nat.le_refl _) _⟩
end Go.Proofs.Qxb6613299a
