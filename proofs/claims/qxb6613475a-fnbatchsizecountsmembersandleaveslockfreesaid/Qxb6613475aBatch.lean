/-
  The contracts of ZZbatchSize (6; it calls (*batch).size, 10) and ZZnewBatch (5).
  The batch is eight cells from its address: ctx 0, cancel 1, wait 2, claimed 3, mu 4 and 5, members 6, live 7.
-/
import Derived.Test.Qxb6613475aRows
import Derived.Test.Qxb6613475aLocks
import Derived.Conc.MuLone
import Derived.WalkKit
import Derived.ProofKit
import Derived.Below
import Derived.Deep.OwnRows
namespace Go.Proofs.Qxb6613475a
open Go.RowKit
open Go.MuLone

set_option maxHeartbeats 800000 in
theorem size_free (b n c : Nat) (a : Option Addr) (w : World) (h4 : w.cell? ⟨b, 4, none⟩ = some (.int .i32 0)) (h6 : w.cell? ⟨b, 6, none⟩ = some (.slice a n c)) (f4 : w.frozen? ⟨b, 4, none⟩ = false) :
    Calls Try.prog 10 #[.pointer (some ⟨b, 0, none⟩)] w fun e w' => e = .returned (.int .i64 (n : Int)) ∧ w' = (w.setCell ⟨b, 4, none⟩ (.int .i32 1)).setCell ⟨b, 4, none⟩ (.int .i32 0) := by
  go_enter_defers Try.func10, Try.ntmps10
  go_wp2_with (go_at_call 14; refine (lock_free muLib ⟨b, 4, none⟩ _ h4 f4).mono ?_; rintro e w' ⟨rfl, rfl⟩)
  refine leaves_cons (f := 15) (args := #[.pointer (some ⟨b, 4, none⟩)]) (by simp) (by simp [go_sem]) ?_
  refine (unlock_deferred muLib ⟨b, 4, none⟩ .returning _ ?_ ?_).mono ?_
  · exact World.cell?_setCell_same w ⟨b, 4, none⟩ (.int .i32 1) h4
  · simp [f4]
  rintro e u' w'' ⟨rfl, rfl, rfl⟩
  exact ⟨_, results_tmp rfl _ _ _, rfl, rfl⟩

theorem batchSize_free (b n c : Nat) (a : Option Addr) (w : World) (h4 : w.cell? ⟨b, 4, none⟩ = some (.int .i32 0)) (h6 : w.cell? ⟨b, 6, none⟩ = some (.slice a n c)) (f4 : w.frozen? ⟨b, 4, none⟩ = false) :
    Calls Try.prog 6 #[.pointer (some ⟨b, 0, none⟩)] w fun e w' => e = .returned (.int .i64 (n : Int)) ∧ w' = (w.setCell ⟨b, 4, none⟩ (.int .i32 1)).setCell ⟨b, 4, none⟩ (.int .i32 0) := by
  go_enter Try.func6, Try.ntmps6
  go_wp2_with fail
  refine (size_free b n c a _ h4 h6 f4).mono ?_
  rintro e w' ⟨rfl, rfl⟩
  go_wp2
  go_ret
  exact ⟨rfl, rfl⟩

theorem info89 : (Try.prog.info? 89).map (fun i => (i.zero, i.size, i.bytes)) = some (some (.pointer none), 1, 8) := by kernel_rfl

set_option maxHeartbeats 800000 in
theorem newBatch (n : Nat) (hn : n ≤ 65536) (w : World) :
    Calls Try.prog 5 #[.int .i64 (n : Int)] w fun e w' => ∃ (b c : Nat) (a : Option Addr), e = .returned (.pointer (some ⟨b, 0, none⟩)) ∧ w.heap.size ≤ b ∧
      w'.cell? ⟨b, 4, none⟩ = some (.int .i32 0) ∧ w'.cell? ⟨b, 6, none⟩ = some (.slice a n c) ∧ w'.frozen? ⟨b, 4, none⟩ = false ∧ Grown w w' := by
  have hmk := Go.run_make_row' (P := Try.prog) 33 89 (.pointer none) 8 Try.underlying33 info89 rfl .i64 .i64 n (by omega) (by omega)
  go_enter Try.func5, Try.ntmps5
  go_wp2
  go_ret
  refine ⟨w.heap.size + 1, n, some ⟨w.heap.size, 0, none⟩, rfl, by omega, by simp [go_sem], by simp [go_sem], by simp [go_sem], ((Grown.refl _).alloc _ _).alloc _ _⟩

/-- The lock taken and let go: what the law needs of the world behind. -/
theorem lock_round {w : World} {b : Nat} {v : Value} (h4 : w.cell? ⟨b, 4, none⟩ = some (.int .i32 0)) (h6 : w.cell? ⟨b, 6, none⟩ = some v) (f4 : w.frozen? ⟨b, 4, none⟩ = false) :
    ((w.setCell ⟨b, 4, none⟩ (.int .i32 1)).setCell ⟨b, 4, none⟩ (.int .i32 0)).cell? ⟨b, 4, none⟩ = some (.int .i32 0) ∧
    ((w.setCell ⟨b, 4, none⟩ (.int .i32 1)).setCell ⟨b, 4, none⟩ (.int .i32 0)).cell? ⟨b, 6, none⟩ = some v ∧
    ((w.setCell ⟨b, 4, none⟩ (.int .i32 1)).setCell ⟨b, 4, none⟩ (.int .i32 0)).frozen? ⟨b, 4, none⟩ = false := by
  refine ⟨World.cell?_setCell_same _ _ _ (World.cell?_setCell_same _ _ _ h4), ?_, by simp [f4]⟩
  rw [World.cell?_setCell_other _ _ _ _ (by simp), World.cell?_setCell_other _ _ _ _ (by simp)]
  exact h6
end Go.Proofs.Qxb6613475a
