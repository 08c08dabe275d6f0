/-
  THE PROOF OF 'Rows.FnInfoDefaultTypeAndRunningSaid': the frame by the guide's tool off its own print for that function; the walk and the plain law are mine.
-/
import Derived.Test.Qxb6613411aRows
import Derived.Test.Qxb6613411aInfo
import Derived.Test.Qxb6613411aInfoB
import Derived.Below
import Derived.WalkKit
import Derived.ProofKit
import Derived.OpenShut
import Derived.ShutString
namespace Go.Proofs.Qxb6613411a.fnInfoDefaultTypeAndRunning
open Go.ChangeShapes Go.WideShapes Go.ChangeAt Go.RowKit
open Go.ChangeMaps (open_string shut_string)
set_option linter.unusedVariables false      -- a walk need not use every 'w<i>' (that an integer argument fits its kind)

theorem own : ownKnob Try.prog.godebug = none := by kernel_rfl

/-! ### THE CALLEE THAT BOUNDS THE LENGTHS: it answers some bool; the world stands. -/
set_option maxHeartbeats 400000 in
theorem bytes_any (a0 a2 : ByteArray) (a1 : Int) (w0 : a0.size ≤ maxLen) (w2 : a2.size ≤ maxLen) (w : World) :
    Calls Try.prog 8 #[.string a0, .int .i64 a1, .string a2] w fun e w' => ∃ b, e = .returned (.bool b) ∧ w' = w := by
  unfold maxLen at w0 w2
  go_enter Try.func8, Try.ntmps8
  go_wp2
  all_goals
    go_ret
    exact ⟨_, rfl, rfl⟩

/-! ### THE WALK, WAY BY WAY: the three types; what is sent home. -/
set_option maxHeartbeats 1000000 in
theorem walk_empty (a0 : ByteArray) (a1 : Int) (w : World) (c0 : a0.size ≤ 65536) (c1 : 0 ≤ a1) (c1' : a1 ≤ 2)
    (hb : Calls Try.prog 8 #[.string a0, .int .i64 a1, .string ⟨#[]⟩] w fun e w' => ∃ b, e = .returned (.bool b) ∧ w' = w) :
    Calls Try.prog 4 #[.string a0, .int .i64 a1, .string ⟨#[]⟩] w fun e w' => e = .returned (.bool true) ∧ Below w.heap.size w w' := by
  go_enter Try.func4, Try.ntmps4
  go_wp2_with fail
  refine hb.mono ?_
  rintro e w' ⟨b, rfl, hw⟩
  subst hw
  clear hb
  cases b
  · go_wp2
    go_ret
    exact ⟨rfl, Below.refl _ _⟩
  go_wp2_with fail
  refine (zzinfo_any _ _ ⟨#[119, 111, 114, 107, 101, 114]⟩ _ _ _ typeOf_empty).mono ?_
  rintro e w1 ⟨rfl, hb1⟩
  go_wp2_with fail
  refine (zzinfo_any _ _ ⟨#[119, 111, 114, 107, 101, 114]⟩ _ _ _ typeOf_worker).mono ?_
  rintro e w2 ⟨rfl, hb2⟩
  have B2 : Below w'.heap.size w' w2 := (hb1.alloc hb1.size _).trans (hb2.mono (by have := hb1.size; simp; omega))
  have hz : w1.heap.size < w2.heap.size := by have := hb2.size; simp at this; omega
  obtain ⟨hc, hf⟩ := bcell hb2
  clear hb1 hb2
  go_wp2_with fail
  refine (zzinfo_any _ _ ⟨#[119, 111, 114, 107, 101, 114]⟩ _ _ _ typeOf_empty).mono ?_
  rintro e w3 ⟨rfl, hb3⟩
  have B3 : Below w'.heap.size w' w3 := (B2.alloc B2.size _).trans (hb3.mono (by have := B2.size; simp; omega))
  clear hz hc hf hb3 B2
  go_wp2_with fail
  refine (zzinfo_any _ _ ⟨#[119, 111, 114, 107, 101, 114]⟩ _ _ _ typeOf_empty).mono ?_
  rintro e w4 ⟨rfl, hb4⟩
  have B4 : Below w'.heap.size w' w4 := (B3.alloc B3.size _).trans (hb4.mono (by have := B3.size; simp; omega))
  have hz : w3.heap.size < w4.heap.size := by have := hb4.size; simp at this; omega
  obtain ⟨hc, hf⟩ := bcell hb4
  clear hb4 B3
  go_wp2
  go_ret
  exact ⟨ret_bool (by simp), B4.alloc B4.size _⟩

set_option maxHeartbeats 1000000 in
theorem walk_worker (a0 : ByteArray) (a1 : Int) (w : World) (c0 : a0.size ≤ 65536) (c1 : 0 ≤ a1) (c1' : a1 ≤ 2)
    (hb : Calls Try.prog 8 #[.string a0, .int .i64 a1, .string ⟨#[119, 111, 114, 107, 101, 114]⟩] w fun e w' => ∃ b, e = .returned (.bool b) ∧ w' = w) :
    Calls Try.prog 4 #[.string a0, .int .i64 a1, .string ⟨#[119, 111, 114, 107, 101, 114]⟩] w fun e w' => e = .returned (.bool true) ∧ Below w.heap.size w w' := by
  go_enter Try.func4, Try.ntmps4
  go_wp2_with fail
  refine hb.mono ?_
  rintro e w' ⟨b, rfl, hw⟩
  subst hw
  clear hb
  cases b
  · go_wp2
    go_ret
    exact ⟨rfl, Below.refl _ _⟩
  go_wp2_with fail
  refine (zzinfo_any _ _ ⟨#[119, 111, 114, 107, 101, 114]⟩ _ _ _ typeOf_empty).mono ?_
  rintro e w1 ⟨rfl, hb1⟩
  go_wp2_with fail
  refine (zzinfo_any _ _ ⟨#[119, 111, 114, 107, 101, 114]⟩ _ _ _ typeOf_worker).mono ?_
  rintro e w2 ⟨rfl, hb2⟩
  have B2 : Below w'.heap.size w' w2 := (hb1.alloc hb1.size _).trans (hb2.mono (by have := hb1.size; simp; omega))
  have hz : w1.heap.size < w2.heap.size := by have := hb2.size; simp at this; omega
  obtain ⟨hc, hf⟩ := bcell hb2
  clear hb1 hb2
  go_wp2_with fail
  refine (zzinfo_any _ _ ⟨#[119, 111, 114, 107, 101, 114]⟩ _ _ _ typeOf_worker).mono ?_
  rintro e w3 ⟨rfl, hb3⟩
  have B3 : Below w'.heap.size w' w3 := (B2.alloc B2.size _).trans (hb3.mono (by have := B2.size; simp; omega))
  clear hz hc hf hb3 B2
  go_wp2_with fail
  refine (zzinfo_any _ _ ⟨#[119, 111, 114, 107, 101, 114]⟩ _ _ _ typeOf_worker).mono ?_
  rintro e w4 ⟨rfl, hb4⟩
  have B4 : Below w'.heap.size w' w4 := (B3.alloc B3.size _).trans (hb4.mono (by have := B3.size; simp; omega))
  have hz : w3.heap.size < w4.heap.size := by have := hb4.size; simp at this; omega
  obtain ⟨hc, hf⟩ := bcell hb4
  clear hb4 B3
  go_wp2
  go_ret
  exact ⟨ret_bool (by simp), B4.alloc B4.size _⟩

set_option maxHeartbeats 1000000 in
theorem walk_super (a0 : ByteArray) (a1 : Int) (w : World) (c0 : a0.size ≤ 65536) (c1 : 0 ≤ a1) (c1' : a1 ≤ 2)
    (hb : Calls Try.prog 8 #[.string a0, .int .i64 a1, .string ⟨#[115, 117, 112, 101, 114, 118, 105, 115, 111, 114]⟩] w fun e w' => ∃ b, e = .returned (.bool b) ∧ w' = w) :
    Calls Try.prog 4 #[.string a0, .int .i64 a1, .string ⟨#[115, 117, 112, 101, 114, 118, 105, 115, 111, 114]⟩] w fun e w' => e = .returned (.bool true) ∧ Below w.heap.size w w' := by
  go_enter Try.func4, Try.ntmps4
  go_wp2_with fail
  refine hb.mono ?_
  rintro e w' ⟨b, rfl, hw⟩
  subst hw
  clear hb
  cases b
  · go_wp2
    go_ret
    exact ⟨rfl, Below.refl _ _⟩
  go_wp2_with fail
  refine (zzinfo_any _ _ ⟨#[119, 111, 114, 107, 101, 114]⟩ _ _ _ typeOf_empty).mono ?_
  rintro e w1 ⟨rfl, hb1⟩
  go_wp2_with fail
  refine (zzinfo_any _ _ ⟨#[119, 111, 114, 107, 101, 114]⟩ _ _ _ typeOf_worker).mono ?_
  rintro e w2 ⟨rfl, hb2⟩
  have B2 : Below w'.heap.size w' w2 := (hb1.alloc hb1.size _).trans (hb2.mono (by have := hb1.size; simp; omega))
  have hz : w1.heap.size < w2.heap.size := by have := hb2.size; simp at this; omega
  obtain ⟨hc, hf⟩ := bcell hb2
  clear hb1 hb2
  go_wp2_with fail
  refine (zzinfo_any _ _ ⟨#[115, 117, 112, 101, 114, 118, 105, 115, 111, 114]⟩ _ _ _ typeOf_super).mono ?_
  rintro e w3 ⟨rfl, hb3⟩
  have B3 : Below w'.heap.size w' w3 := (B2.alloc B2.size _).trans (hb3.mono (by have := B2.size; simp; omega))
  clear hz hc hf hb3 B2
  go_wp2_with fail
  refine (zzinfo_any _ _ ⟨#[115, 117, 112, 101, 114, 118, 105, 115, 111, 114]⟩ _ _ _ typeOf_super).mono ?_
  rintro e w4 ⟨rfl, hb4⟩
  have B4 : Below w'.heap.size w' w4 := (B3.alloc B3.size _).trans (hb4.mono (by have := B3.size; simp; omega))
  have hz : w3.heap.size < w4.heap.size := by have := hb4.size; simp at this; omega
  obtain ⟨hc, hf⟩ := bcell hb4
  clear hb4 B3
  go_wp2
  go_ret
  exact ⟨ret_bool (by simp), B4.alloc B4.size _⟩

set_option maxHeartbeats 1000000 in
theorem walk_home (a0 a2 : ByteArray) (a1 : Int) (w : World) (w0 : a0.size ≤ 2 ^ 63 - 1) (w2 : a2.size ≤ 2 ^ 63 - 1)
    (hc : ¬ (a0.size ≤ 65536 ∧ 0 ≤ a1 ∧ a1 ≤ 2 ∧ (a2.toList = [] ∨ a2.toList = [119, 111, 114, 107, 101, 114] ∨ a2.toList = [115, 117, 112, 101, 114, 118, 105, 115, 111, 114])))
    (hb : Calls Try.prog 8 #[.string a0, .int .i64 a1, .string a2] w fun e w' => ∃ b, e = .returned (.bool b) ∧ w' = w) :
    Calls Try.prog 4 #[.string a0, .int .i64 a1, .string a2] w fun e w' => e = .returned (.bool true) ∧ Below w.heap.size w w' := by
  have HC : Hid (¬ (a0.size ≤ 65536 ∧ 0 ≤ a1 ∧ a1 ≤ 2 ∧ (a2.toList = [] ∨ a2.toList = [119, 111, 114, 107, 101, 114] ∨ a2.toList = [115, 117, 112, 101, 114, 118, 105, 115, 111, 114]))) := hc
  clear hc
  go_enter Try.func4, Try.ntmps4
  go_wp2_with fail
  refine hb.mono ?_
  rintro e w' ⟨b, rfl, hw⟩
  subst hw
  clear hb
  cases b
  · go_wp2
    go_ret
    exact ⟨rfl, Below.refl _ _⟩
  go_wp2_with fail
  all_goals
    first
    | (refine absurd ⟨by omega, by omega, by omega, ?_⟩ HC.out; simp_all; done)
    | (go_ret; exact ⟨rfl, Below.refl _ _⟩)

/-! ### STEP 1: THE WALK: the Go text returns true. 'Below w.heap.size w w'': nothing that was there has turned (Derived/Below.lean). Part the cases AHEAD of 'go_enter' where a test parts the walk; take each callee by a contract of your own. -/
theorem walk (a0 : ByteArray) (a1 : Int) (a2 : ByteArray) (w0 : a0.size ≤ maxLen) (w1 : (Lit.int .i64 a1).wf = true) (w2 : a2.size ≤ maxLen) (w : World) :
    Calls Try.prog 4 #[.string a0, .int .i64 a1, .string a2] w fun e w' => e = .returned (.bool true) ∧ Below w.heap.size w w' := by
  have hb := bytes_any a0 a2 a1 w0 w2 w
  by_cases hc : a0.size ≤ 65536 ∧ 0 ≤ a1 ∧ a1 ≤ 2 ∧ (a2.toList = [] ∨ a2.toList = [119, 111, 114, 107, 101, 114] ∨ a2.toList = [115, 117, 112, 101, 114, 118, 105, 115, 111, 114])
  · obtain ⟨c0, c1, c1', ht⟩ := hc
    rcases ht with ht | ht | ht
    · obtain rfl := lit_of_list ht
      exact walk_empty a0 a1 w c0 c1 c1' hb
    · obtain rfl := lit_of_list ht
      exact walk_worker a0 a1 w c0 c1 c1' hb
    · obtain rfl := lit_of_list ht
      exact walk_super a0 a1 w c0 c1 c1' hb
  · exact walk_home a0 a2 a1 w w0 w2 hc hb

/-! ### THE ROW's STEP: WRITTEN OUT: LEAVE IT -/
set_option maxRecDepth 100000 in
theorem lifted (os : Os) (started : os.Started) (H : Type) (enc : TypeId × Value → H) :
    ReturnsInHanded {} Try.checked os 4 .any (Rows.fnInfoDefaultTypeAndRunningSpec.pre6 enc Try.prog Try.f4 Rows.fnInfoDefaultTypeAndRunningRow.domain false) (Rows.fnInfoDefaultTypeAndRunningSpec.post enc Try.prog Try.f4 false true false false) := by
  refine returnsInHanded_of_change (C := Try.checked) own started (by kernel_rfl) Try.func4
    (ChangeSpec.witness6 (enc := enc) (C := Try.checked) false ⟨#[], #[.string ByteArray.empty, .int .i64 0, .string ByteArray.empty], []⟩ 8 (by kernel_rfl) (by kernel_rfl) (by kernel_rfl) (by kernel_rfl)) ?_
  intro W base args ds gs before hval0 hW hcnd _
  have hval : ∀ (j : Nat) t v, Try.f4.params[j]? = some t → args[j]? = some v → Value.okWide Try.prog W .any base t v := hval0
  have hW' := hW
  obtain ⟨p, q, hA0, hV, rfl, hfz, hnd⟩ := hW
  have hA : DataW.TrodAll enc Try.prog W 0 (fun _ => true) true Try.f4.params.toList args.toList ds p := hA0
  rw [Try.params4] at hA hval
  obtain ⟨v0, vs0, d0, ds0, p0, q0, hargs, rfl, rfl, h0, r0⟩ := trodAll_cons hA
  obtain ⟨v1, vs1, d1, ds1, p1, q1, rfl, rfl, rfl, h1, r1⟩ := trodAll_cons r0
  obtain ⟨v2, vs2, d2, ds2, p2, q2, rfl, rfl, rfl, h2, r2⟩ := trodAll_cons r1
  obtain ⟨rfl, rfl, rfl⟩ := trodAll_nil r2
  obtain rfl : args = #[v0, v1, v2] := by cases args; simp_all
  obtain ⟨rfl, rfl⟩ := trodVars_none hV
  obtain ⟨a0, rfl, rfl, rfl, w0⟩ := open_string Try.underlying9 (hval 0 9 v0 rfl rfl) h0
  obtain ⟨a1, rfl, rfl, rfl, w1⟩ := open_int Try.underlying3 (hval 1 3 v1 rfl rfl) h1
  obtain ⟨a2, rfl, rfl, rfl, w2⟩ := open_string Try.underlying9 (hval 2 9 v2 rfl rfl) h2
  clear hA0 hval0
  simp only [List.append_nil] at hW'
  refine (walk a0 a1 a2 w0 w1 w2 W).mono fun e W' ⟨he, hg⟩ => ?_
  subst he
  exact ⟨_, rfl, _, _, _, [], [], [], hW', (trodAll_cons_mk (shut_bool Try.underlying4 _) trodAll_mk0), (trodAll_cons_mk (shut_string Try.underlying9 w0) (trodAll_cons_mk (shut_int Try.underlying3 w1) (trodAll_cons_mk (shut_string Try.underlying9 w2) trodAll_mk0))), rfl, hg.frame _, fun h => by cases h⟩

theorem over : Rows.fnInfoDefaultTypeAndRunningRow.holds Try.pinned (OpenSpec.ofChange Rows.fnInfoDefaultTypeAndRunningSpec) :=
  OpenClaim.holds_of_wide 4 Try.f4 rfl rfl rfl rfl rfl rfl rfl ⟨rfl, rfl, rfl, rfl, rfl⟩ rfl rfl rfl rfl rfl (by kernel_rfl) Try.func4 (by kernel_rfl)
    (of_decide_eq_true (by kernel_rfl)) (by unfold Func.isWrapper; first | (rw [if_pos (by decide +kernel)]; kernel_rfl) | (rw [if_neg (by decide +kernel)]; exact ⟨rfl, rfl⟩))
    (fun os started H enc _ => lifted os started H enc)

/-- ████ THE STATEMENT ████ -/
theorem proved : Rows.FnInfoDefaultTypeAndRunningSaid :=
  over
end Go.Proofs.Qxb6613411a.fnInfoDefaultTypeAndRunning

namespace Go.Proofs.Qxb6613411a
/-- The same, by a short name. -/
theorem fnInfoDefaultTypeAndRunning_proved : Rows.FnInfoDefaultTypeAndRunningSaid :=
  fnInfoDefaultTypeAndRunning.proved
end Go.Proofs.Qxb6613411a
