/-
  (*child).info (12) and ZZInfo (7).
-/
import Derived.Test.Qxb6613411aInfo
import Derived.RegionTactic
import Derived.BigRegion
namespace Go.Proofs.Qxb6613411a
open Go.RowKit

/-- The six bytes of worker. -/
def wk : ByteArray := ⟨#[119, 111, 114, 107, 101, 114]⟩
/-- The type that a child is described by. -/
def typeOf (typ : ByteArray) : ByteArray := if typ.toList.isEmpty = true then wk else typ

set_option maxHeartbeats 400000 in
theorem info_any (id typ t : ByteArray) (r : Int) (p : Option Addr) (b : Nat) (w : World) (h0 : w.cell? ⟨b, 0, none⟩ = some (.string id)) (h2 : w.cell? ⟨b, 2, none⟩ = some (.int .i64 r)) (h3 : w.cell? ⟨b, 3, none⟩ = some (.string typ)) (h7 : w.cell? ⟨b, 7, none⟩ = some (.pointer p))
    (hb : b < w.heap.size) (ht : typeOf typ = t) :
    Calls Try.prog 12 #[.pointer (some ⟨b, 0, none⟩)] w fun e w' => e = .returned (.agg #[.string id, .bool p.isSome, .int .i64 r, .string t]) ∧ w' = (w.alloc (.cells #[.string id, .bool p.isSome, .int .i64 r, .string t] 26)).drew := by
  cases hte : typ.toList.isEmpty with
  | true =>
    have hw : t = ⟨#[119, 111, 114, 107, 101, 114]⟩ := by
      rw [← ht]
      unfold typeOf
      rw [if_pos hte]
      rfl
    subst hw
    clear ht
    cases p with
    | none =>
      go_enter Try.func12, Try.ntmps12
      go_wp2
      go_region
      go_wp2
      exact bodyPost_ret (v := .agg #[.string id, .bool false, .int .i64 r, .string ⟨#[119, 111, 114, 107, 101, 114]⟩]) (by simp [results, Try.results12, go_sem]) rfl ⟨rfl, rfl⟩
    | some a =>
      go_enter Try.func12, Try.ntmps12
      go_wp2
      go_region
      go_wp2
      exact bodyPost_ret (v := .agg #[.string id, .bool true, .int .i64 r, .string ⟨#[119, 111, 114, 107, 101, 114]⟩]) (by simp [results, Try.results12, go_sem]) rfl ⟨rfl, rfl⟩
  | false =>
    have hw : t = typ := by
      rw [← ht]
      unfold typeOf
      rw [if_neg (by rw [hte]; simp)]
    subst hw
    clear ht
    cases p with
    | none =>
      go_enter Try.func12, Try.ntmps12
      go_wp2
      go_region
      go_wp2
      exact bodyPost_ret (v := .agg #[.string id, .bool false, .int .i64 r, .string t]) (by simp [results, Try.results12, go_sem]) rfl ⟨rfl, rfl⟩
    | some a =>
      go_enter Try.func12, Try.ntmps12
      go_wp2
      go_region
      go_wp2
      exact bodyPost_ret (v := .agg #[.string id, .bool true, .int .i64 r, .string t]) (by simp [results, Try.results12, go_sem]) rfl ⟨rfl, rfl⟩

set_option maxHeartbeats 400000 in
theorem zzinfo_stopped (id typ t : ByteArray) (r : Int) (w : World) (ht : typeOf typ = t) :
    Calls Try.prog 7 #[.string id, .int .i64 r, .string typ, .bool false] w fun e w' => e = .returned (.agg #[.string id, .bool false, .int .i64 r, .string t]) ∧ Below w.heap.size w w' := by
  have HT : Hid (typeOf typ = t) := ht
  clear ht
  go_enter Try.func7, Try.ntmps7
  go_wp2_with fail
  refine (child_any _ _ _ _).mono ?_
  rintro e w1 ⟨rfl, rfl⟩
  go_wp2_with fail
  refine (info_any id typ t r none _ _ (by simp [go_sem]) (by simp [go_sem]) (by simp [go_sem]) (by simp [go_sem]) (by simp) HT.out).mono ?_
  rintro e w1 ⟨rfl, rfl⟩
  go_wp2
  refine bodyPost_ret (v := .agg #[.string id, .bool false, .int .i64 r, .string t]) (by simp [results, Try.results7, go_sem]) rfl ⟨rfl, ?_⟩
  repeat (first | exact Below.refl _ _ | apply Below.drew | refine Below.alloc ?_ (by simp <;> omega) _)

set_option maxHeartbeats 400000 in
theorem zzinfo_running (id typ t : ByteArray) (r : Int) (w : World) (ht : typeOf typ = t) :
    Calls Try.prog 7 #[.string id, .int .i64 r, .string typ, .bool true] w fun e w' => e = .returned (.agg #[.string id, .bool true, .int .i64 r, .string t]) ∧ Below w.heap.size w w' := by
  have HT : Hid (typeOf typ = t) := ht
  clear ht
  go_enter Try.func7, Try.ntmps7
  go_wp2_with fail
  refine (child_any _ _ _ _).mono ?_
  rintro e w1 ⟨rfl, rfl⟩
  go_wp2_with fail
  refine (info_any id typ t r (some ⟨w.heap.size + 1 + 1 + 1 + 1 + 1, 0, none⟩) _ _ (by simp [go_sem]) (by simp [go_sem]) (by simp [go_sem]) (by simp [go_sem]) (by simp) HT.out).mono ?_
  rintro e w1 ⟨rfl, rfl⟩
  go_wp2
  refine bodyPost_ret (v := .agg #[.string id, .bool true, .int .i64 r, .string t]) (by simp [results, Try.results7, go_sem]) rfl ⟨rfl, ?_⟩
  repeat (first | exact Below.refl _ _ | apply Below.drew | refine Below.alloc ?_ (by simp <;> omega) _)

theorem zzinfo_any (id typ t : ByteArray) (r : Int) (b : Bool) (w : World) (ht : typeOf typ = t) :
    Calls Try.prog 7 #[.string id, .int .i64 r, .string typ, .bool b] w fun e w' => e = .returned (.agg #[.string id, .bool b, .int .i64 r, .string t]) ∧ Below w.heap.size w w' := by
  cases b
  · exact zzinfo_stopped id typ t r w ht
  · exact zzinfo_running id typ t r w ht

theorem typeOf_empty : typeOf ⟨#[]⟩ = ⟨#[119, 111, 114, 107, 101, 114]⟩ := by
  unfold typeOf
  rw [ByteArray.toList_eq]
  rfl
theorem typeOf_worker : typeOf ⟨#[119, 111, 114, 107, 101, 114]⟩ = ⟨#[119, 111, 114, 107, 101, 114]⟩ := by
  unfold typeOf
  rw [ByteArray.toList_eq]
  rfl
theorem typeOf_super : typeOf ⟨#[115, 117, 112, 101, 114, 118, 105, 115, 111, 114]⟩ = ⟨#[115, 117, 112, 101, 114, 118, 105, 115, 111, 114]⟩ := by
  unfold typeOf
  rw [ByteArray.toList_eq]
  rfl

/-- A string whose bytes are known. -/
theorem lit_of_list {s : ByteArray} {l : List UInt8} (h : s.toList = l) : s = ⟨l.toArray⟩ := by
  rw [← h, ByteArray.toList_eq]

theorem bcell {W w1 : World} (hb : Below W.heap.size W w1) : (∀ b o, b < W.heap.size → w1.cell? ⟨b, o, none⟩ = W.cell? ⟨b, o, none⟩) ∧ (∀ b o, b < W.heap.size → w1.frozen? ⟨b, o, none⟩ = W.frozen? ⟨b, o, none⟩) :=
  ⟨fun b o h => hb.cell (p := ⟨b, o, none⟩) h, fun b o h => hb.frozen (p := ⟨b, o, none⟩) h⟩
end Go.Proofs.Qxb6613411a
