/-
  A byte put at k; the conversions to []byte and back.
-/
import Derived.Test.Qxb6613299aSoe
import Derived.Laws.IdiomStrings
import Derived.Lib.SlBytesRow
namespace Go.Proofs.Qxb6613299a
open Go.RowKit

/-- The text s with the byte c at k. -/
def setB (s : ByteArray) (k : Nat) (c : UInt8) : ByteArray := ⟨s.data.setIfInBounds k c⟩

theorem size_setB (s : ByteArray) (k : Nat) (c : UInt8) : (setB s k c).size = s.size := by
  unfold setB ByteArray.size
  simp

theorem setB_at (s : ByteArray) (k : Nat) (c : UInt8) (j : Nat) (h : j < (setB s k c).size) (hj : j < s.size) : (setB s k c)[j] = if k = j then c else s[j] := by
  have h' : j < (s.data.setIfInBounds k c).size := h
  show (s.data.setIfInBounds k c)[j]'h' = _
  rw [Array.getElem_setIfInBounds]
  rfl

theorem soe_set_same (s : ByteArray) (k : Nat) (c : UInt8) (h : k < s.size) : soeB (setB s k c) k = blankB c.toNat := by
  have h2 : k < (setB s k c).size := by rw [size_setB]; exact h
  rw [soeB_at _ _ h2, setB_at s k c k h2 h, if_pos rfl]

theorem soe_set_other (s : ByteArray) (k : Nat) (c : UInt8) (j : Nat) (h : ¬ j = k) : soeB (setB s k c) j = soeB s j := by
  by_cases hj : j < s.size
  · have h2 : j < (setB s k c).size := by rw [size_setB]; exact hj
    rw [soeB_at _ _ h2, soeB_at _ _ hj, setB_at s k c j h2 hj, if_neg (fun e => h e.symm)]
  · have h2 : ¬ j < (setB s k c).size := by rw [size_setB]; exact hj
    rw [soeB_end _ _ h2, soeB_end _ _ hj]

/-- '[]byte(s)': some row C that begins with the bytes of s. -/
theorem conv_row (w : World) (s : ByteArray) : ∃ (C : Array Value) (cap : Nat),
    (convert 9 24 (.string s)).run Try.prog w = .ok (.slice (some ⟨w.heap.size, 0, none⟩) s.size cap) (w.drew.alloc (.cells C 5 (C.size, C.size + 1))) ∧
    s.size ≤ C.size ∧ ∀ j (hj : j < s.size), C[j]? = some (.int .u8 (s[j].toNat : Int)) := by
  refine ⟨bytesRow s (grownCap w s.size 0 5), grownCap w s.size 0 5, run_bytes_of_string (P := Try.prog) w 9 24 5 s Try.underlying9 Try.underlying24 Try.underlying5, ?_, fun j hj => bytesRow_at s _ j hj⟩
  unfold bytesRow ByteArray.size
  simp

/-- 'string(b)' behind the store. -/
theorem conv_back (w : World) (s : ByteArray) (k : Nat) (c : UInt8) (b cap : Nat) (hc : ∀ j (hj : j < s.size), w.cell? ⟨b, j, none⟩ = some (.int .u8 ((if k = j then c else s[j]).toNat : Int))) :
    (convert 24 9 (.slice (some ⟨b, 0, none⟩) s.size cap)).run Try.prog w = .ok (.string (setB s k c)) w := by
  have h := Lib.run_convert_whole (P := Try.prog) w 24 5 9 Try.underlying24 Try.underlying5 Try.underlying9 b 0 (setB s k c) (fun i hi => by
    have hi' : i < s.size := by rw [size_setB] at hi; exact hi
    rw [Nat.zero_add, hc i hi', setB_at s k c i hi hi']) cap
  rw [size_setB] at h
  exact h
/-- '[]byte(s)', a byte stored at k, and back: the four facts that the walk takes. -/
theorem conv_facts (w : World) (s : ByteArray) (k : Nat) (c : UInt8) (hk : k < s.size) : ∃ (C : Array Value) (cap : Nat) (v : Value),
    (convert 9 24 (.string s)).run Try.prog w = .ok (.slice (some ⟨w.heap.size, 0, none⟩) s.size cap) (w.drew.alloc (.cells C 5 (C.size, C.size + 1))) ∧
    (w.alloc (.cells C 5 (C.size, C.size + 1))).cell? ⟨w.heap.size, k, none⟩ = some v ∧
    (w.alloc (.cells C 5 (C.size, C.size + 1))).frozen? ⟨w.heap.size, k, none⟩ = false ∧
    (convert 24 9 (.slice (some ⟨w.heap.size, 0, none⟩) s.size cap)).run Try.prog ((w.alloc (.cells C 5 (C.size, C.size + 1))).setCell ⟨w.heap.size, k, none⟩ (.int .u8 (c.toNat : Int))).drew
      = .ok (.string (setB s k c)) ((w.alloc (.cells C 5 (C.size, C.size + 1))).setCell ⟨w.heap.size, k, none⟩ (.int .u8 (c.toNat : Int))).drew := by
  obtain ⟨C, cap, h1, hz, hC⟩ := conv_row w s
  have hcell : ∀ j (hj : j < s.size), (w.alloc (.cells C 5 (C.size, C.size + 1))).cell? ⟨w.heap.size, j, none⟩ = some (.int .u8 (s[j].toNat : Int)) := fun j hj => by
    rw [World.cell?_alloc_mark, hC j hj]
  refine ⟨C, cap, .int .u8 (s[k].toNat : Int), h1, hcell k hk, ?_, ?_⟩
  · rw [World.frozen?_alloc_mark]
    simp
    omega
  · refine conv_back _ s k c w.heap.size cap fun j hj => ?_
    show ((w.alloc (.cells C 5 (C.size, C.size + 1))).setCell ⟨w.heap.size, k, none⟩ (.int .u8 (c.toNat : Int))).cell? ⟨w.heap.size, j, none⟩ = _
    by_cases e : k = j
    · subst e
      rw [if_pos rfl]
      exact World.cell?_setCell_same _ _ _ (hcell k hk)
    · have hne : (⟨w.heap.size, k, none⟩ : Addr) ≠ ⟨w.heap.size, j, none⟩ := fun h => e (by injection h)
      rw [if_neg e, World.cell?_setCell_other _ _ _ _ hne]
      exact hcell j hj

/-- Behind the conversion, the store and a further call nothing old has turned. -/
theorem below_conv {w w1 w2 : World} {O : Obj} {k B : Nat} {v : Value} (h1 : Below w.heap.size w w1) (h2 : Below B ((w1.alloc O).setCell ⟨w1.heap.size, k, none⟩ v).drew w2) (hB : w.heap.size ≤ B) : Below w.heap.size w w2 :=
  Below.trans (Below.drew (Below.setCell (Below.alloc h1 h1.size O) (p := ⟨w1.heap.size, k, none⟩) h1.size v)) (h2.mono hB)
end Go.Proofs.Qxb6613299a
