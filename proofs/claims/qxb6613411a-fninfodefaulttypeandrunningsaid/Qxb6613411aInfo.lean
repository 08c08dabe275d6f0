/-
  The contracts that the two laws on ZZInfo share: zzBudget (15), zzChild (11), (*child).info (12), ZZInfo (7).
-/
import Derived.Test.Qxb6613411aRows
import Derived.WalkKit
import Derived.ProofKit
import Derived.Below
import Derived.Laws.EntriesVeiled
namespace Go.Proofs.Qxb6613411a
open Go.RowKit

theorem ret_bool {a b : Bool} (h : a = b) : Ending.returned (.bool a) = .returned (.bool b) := by rw [h]

theorem budget_none (w : World) :
    Calls Try.prog 15 #[.bool false, .int .i64 0] w fun e w' => e = .returned (.agg #[.string ⟨#[]⟩, .int .i64 0]) ∧ w' = w.alloc (.cells #[.string ⟨#[]⟩, .int .i64 0] 36) := by
  go_enter Try.func15, Try.ntmps15
  go_wp2
  exact bodyPost_ret (v := .agg #[.string ⟨#[]⟩, .int .i64 0]) (by simp [results, Try.results15, go_sem]) rfl ⟨rfl, rfl⟩

theorem child_any (id typ : ByteArray) (r : Int) (w : World) :
    Calls Try.prog 11 #[.string id, .bool true, .int .i64 r, .string typ, .bool false, .int .i64 0, .bool false] w fun e w' => e = .returned (.agg #[.string id, .func (.func 16) #[] #[], .int .i64 r, .string typ, .string ⟨#[]⟩, .int .i64 0, .bool false]) ∧
      w' = ((w.alloc (.cells #[.string id, .func (.func 16) #[] #[], .int .i64 r, .string typ, .string ⟨#[]⟩, .int .i64 0, .bool false] 38)).alloc (.cells #[.string ⟨#[]⟩, .int .i64 0] 36)).alloc (.cells #[.string id, .func (.func 16) #[] #[], .int .i64 r, .string typ, .string ⟨#[]⟩, .int .i64 0, .bool false] 38) := by
  go_enter Try.func11, Try.ntmps11
  go_wp2_with fail
  refine (budget_none _).mono ?_
  rintro e w1 ⟨rfl, rfl⟩
  go_wp2
  exact bodyPost_ret (v := .agg #[.string id, .func (.func 16) #[] #[], .int .i64 r, .string typ, .string ⟨#[]⟩, .int .i64 0, .bool false]) (by simp [results, Try.results11, go_sem]) rfl ⟨rfl, rfl⟩
end Go.Proofs.Qxb6613411a
