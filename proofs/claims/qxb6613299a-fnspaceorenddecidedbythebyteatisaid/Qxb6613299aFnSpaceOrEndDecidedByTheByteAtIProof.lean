/-
  THE PROOF OF 'Rows.FnSpaceOrEndDecidedByTheByteAtISaid': the frame by the guide's tool off its own print for that function; the walk and the plain law are mine.
-/
import Derived.Test.Qxb6613299aRows
import Derived.Test.Qxb6613299aSoe
import Derived.Test.Qxb6613299aByteSet
import Derived.Below
import Derived.WalkKit
import Derived.ProofKit
import Derived.OpenShut
import Derived.ShutString
namespace Go.Proofs.Qxb6613299a.fnSpaceOrEndDecidedByTheByteAtI
open Go.ChangeShapes Go.WideShapes Go.ChangeAt Go.RowKit
open Go.ChangeMaps (open_string shut_string)
set_option linter.unusedVariables false      -- a walk need not use every 'w<i>' (that an integer argument fits its kind)

theorem own : ownKnob Try.prog.godebug = none := by kernel_rfl

/-! ### THE CALLEES: the one that bounds the lengths answers some bool; b1Blank answers the byte test. -/
set_option maxHeartbeats 400000 in
theorem bytes_any (a0 a1 : ByteArray) (a2 a3 a4 a5 a6 a7 : Int) (w0 : a0.size ≤ maxLen) (w1 : a1.size ≤ maxLen) (w : World) :
    Calls Try.prog 5 #[.string a0, .string a1, .int .i64 a2, .int .i64 a3, .int .i64 a4, .int .i64 a5, .int .u8 a6, .int .i64 a7] w fun e w' => ∃ b, e = .returned (.bool b) ∧ w' = w := by
  unfold maxLen at w0 w1
  go_enter Try.func5, Try.ntmps5
  go_wp2
  all_goals
    go_ret
    exact ⟨_, rfl, rfl⟩

theorem blank_cast (n : Nat) : ((n : Int) == 32 || (n : Int) == 9 || (n : Int) == 10) = blankB n := by
  unfold blankB
  rw [Bool.eq_iff_iff]
  simp
  omega

theorem blank_is (n : Nat) (g : Bool) (hg : blankB n = g) (w : World) :
    Calls Try.prog 7 #[.int .u8 (n : Int)] w fun e w' => e = .returned (.bool g) ∧ w' = w := by
  have HG : Hid (blankB n = g) := hg
  clear hg
  by_cases h1 : n = 32
  · subst h1
    go_enter Try.func7, Try.ntmps7
    go_wp2
    go_ret
    exact ⟨ret_bool (by rw [← HG.out]; rfl), rfl⟩
  · by_cases h2 : n = 9
    · subst h2
      go_enter Try.func7, Try.ntmps7
      go_wp2
      go_ret
      exact ⟨ret_bool (by rw [← HG.out]; rfl), rfl⟩
    · go_enter Try.func7, Try.ntmps7
      go_wp2
      all_goals
        go_ret
        exact ⟨ret_bool (by rw [← HG.out]; exact blank_cast n), rfl⟩

/-! ### THE WALK, WAY BY WAY: the guards pass and i falls in the text; they pass and i is past it; one of them sends the call home. -/
set_option maxHeartbeats 400000 in
theorem walk_in (a0 a1 : ByteArray) (a2 a3 a4 : Int) (k j : Nat) (c : UInt8) (w : World) (w0 : a0.size ≤ 2 ^ 63 - 1) (w1 : a1.size ≤ 2 ^ 63 - 1) (c0 : a0.size ≤ 262144) (c1 : a1.size ≤ 262144) (c2 : 0 ≤ a2) (c2' : a2 ≤ a1.size) (c4 : 0 ≤ a4) (c4' : a4 ≤ a2) (c3 : 0 ≤ a3) (hlt : k < a1.size)
    (hb : Calls Try.prog 5 #[.string a0, .string a1, .int .i64 a2, .int .i64 a3, .int .i64 a4, .int .i64 (k : Int), .int .u8 (c.toNat : Int), .int .i64 (j : Int)] w fun e w' => ∃ b, e = .returned (.bool b) ∧ w' = w) :
    Calls Try.prog 3 #[.string a0, .string a1, .int .i64 a2, .int .i64 a3, .int .i64 a4, .int .i64 (k : Int), .int .u8 (c.toNat : Int), .int .i64 (j : Int)] w fun e w' => e = .returned (.bool true) ∧ Below w.heap.size w w' := by
  have g0 : soeB a1 k = blankB a1[k].toNat := soeB_at a1 k hlt
  have g1 : soeB (setB a1 k c) k = blankB c.toNat := soe_set_same a1 k c hlt
  generalize ge0 : blankB a1[k].toNat = b0 at g0
  generalize ge1 : blankB c.toNat = b1 at g1
  have G0 : Hid (soeB a1 k = b0) := g0
  have G1 : Hid (soeB (setB a1 k c) k = b1) := g1
  have GE0 : Hid (blankB a1[k].toNat = b0) := ge0
  have GE1 : Hid (blankB c.toNat = b1) := ge1
  clear g0 g1 ge0 ge1
  go_enter Try.func3, Try.ntmps3
  go_wp2_with fail
  refine hb.mono ?_
  rintro e w' ⟨b, rfl, hw⟩
  subst hw
  clear hb
  cases b
  · go_wp2
    go_ret
    exact ⟨rfl, Below.refl _ _⟩
  go_wp2_with fail
  refine (soe_is _ _ _ _ _ _ b0 G0.out _).mono ?_
  rintro e w1 ⟨rfl, hb1⟩
  obtain ⟨C, cap, v, hconv, hcell, hfro, hback⟩ := conv_facts w1 a1 k c hlt
  go_wp2_with fail
  refine (soe_is _ _ _ _ _ _ b1 G1.out _).mono ?_
  rintro e w2 ⟨rfl, hb2⟩
  have B2 : Below w'.heap.size w' w2 := below_conv hb1 hb2 (by have := hb1.size; simp; omega)
  clear hb2 hconv hback hcell hfro hb1
  by_cases hj : j = k
  · go_wp2_with fail
    refine (blank_is _ b0 GE0.out _).mono ?_
    rintro e w3 ⟨rfl, hw3⟩
    rw [hw3]
    clear hw3
    go_wp2_with fail
    refine (blank_is _ b1 GE1.out _).mono ?_
    rintro e w4 ⟨rfl, hw4⟩
    rw [hw4]
    clear hw4
    go_wp2_with fail
    go_ret
    exact ⟨rfl, B2⟩
  · obtain ⟨bj, hbj⟩ : ∃ bj, soeB a1 j = bj := ⟨_, rfl⟩
    have GJ : Hid (soeB a1 j = bj) := hbj
    have GJ2 : Hid (soeB (setB a1 k c) j = bj) := (soe_set_other a1 k c j hj).trans hbj
    clear hbj
    go_wp2_with fail
    refine (blank_is _ b0 GE0.out _).mono ?_
    rintro e w3 ⟨rfl, hw3⟩
    rw [hw3]
    clear hw3
    go_wp2_with fail
    refine (blank_is _ b1 GE1.out _).mono ?_
    rintro e w4 ⟨rfl, hw4⟩
    rw [hw4]
    clear hw4
    go_wp2_with fail
    refine (soe_is _ _ _ _ _ _ bj GJ2.out _).mono ?_
    rintro e w5 ⟨rfl, hb5⟩
    have B5 : Below w'.heap.size w' w5 := B2.trans (hb5.mono B2.size)
    clear hb5
    go_wp2_with fail
    refine (soe_is _ _ _ _ _ _ bj GJ.out _).mono ?_
    rintro e w6 ⟨rfl, hb6⟩
    have B6 : Below w'.heap.size w' w6 := B5.trans (hb6.mono B5.size)
    clear hb6
    go_wp2_with fail
    go_ret
    exact ⟨rfl, B6⟩

set_option maxHeartbeats 400000 in
theorem walk_past (a0 a1 : ByteArray) (a2 a3 a4 : Int) (k j : Nat) (c : UInt8) (w : World) (w0 : a0.size ≤ 2 ^ 63 - 1) (w1 : a1.size ≤ 2 ^ 63 - 1) (c0 : a0.size ≤ 262144) (c1 : a1.size ≤ 262144) (c2 : 0 ≤ a2) (c2' : a2 ≤ a1.size) (c4 : 0 ≤ a4) (c4' : a4 ≤ a2) (c3 : 0 ≤ a3) (hlt : ¬ k < a1.size)
    (hb : Calls Try.prog 5 #[.string a0, .string a1, .int .i64 a2, .int .i64 a3, .int .i64 a4, .int .i64 (k : Int), .int .u8 (c.toNat : Int), .int .i64 (j : Int)] w fun e w' => ∃ b, e = .returned (.bool b) ∧ w' = w) :
    Calls Try.prog 3 #[.string a0, .string a1, .int .i64 a2, .int .i64 a3, .int .i64 a4, .int .i64 (k : Int), .int .u8 (c.toNat : Int), .int .i64 (j : Int)] w fun e w' => e = .returned (.bool true) ∧ Below w.heap.size w w' := by
  have G0 : Hid (soeB a1 k = true) := soeB_end a1 k hlt
  go_enter Try.func3, Try.ntmps3
  go_wp2_with fail
  refine hb.mono ?_
  rintro e w' ⟨b, rfl, hw⟩
  subst hw
  clear hb
  cases b
  · go_wp2
    go_ret
    exact ⟨rfl, Below.refl _ _⟩
  go_wp2_with fail
  refine (soe_is _ _ _ _ _ _ true G0.out _).mono ?_
  rintro e w1 ⟨rfl, hb1⟩
  go_wp2_with fail
  go_ret
  exact ⟨rfl, hb1⟩

set_option maxHeartbeats 400000 in
theorem walk_home (a0 a1 : ByteArray) (a2 a3 a4 a5 a6 a7 : Int) (w : World) (w0 : a0.size ≤ 2 ^ 63 - 1) (w1 : a1.size ≤ 2 ^ 63 - 1) (hc : ¬ (a0.size ≤ 262144 ∧ a1.size ≤ 262144 ∧ 0 ≤ a2 ∧ a2 ≤ a1.size ∧ 0 ≤ a4 ∧ a4 ≤ a2 ∧ 0 ≤ a3 ∧ 0 ≤ a5 ∧ 0 ≤ a7))
    (hb : Calls Try.prog 5 #[.string a0, .string a1, .int .i64 a2, .int .i64 a3, .int .i64 a4, .int .i64 a5, .int .u8 a6, .int .i64 a7] w fun e w' => ∃ b, e = .returned (.bool b) ∧ w' = w) :
    Calls Try.prog 3 #[.string a0, .string a1, .int .i64 a2, .int .i64 a3, .int .i64 a4, .int .i64 a5, .int .u8 a6, .int .i64 a7] w fun e w' => e = .returned (.bool true) ∧ Below w.heap.size w w' := by
  have HC : Hid (¬ (a0.size ≤ 262144 ∧ a1.size ≤ 262144 ∧ 0 ≤ a2 ∧ a2 ≤ a1.size ∧ 0 ≤ a4 ∧ a4 ≤ a2 ∧ 0 ≤ a3 ∧ 0 ≤ a5 ∧ 0 ≤ a7)) := hc
  clear hc
  go_enter Try.func3, Try.ntmps3
  go_wp2_with fail
  refine hb.mono ?_
  rintro e w' ⟨b, rfl, hw⟩
  subst hw
  clear hb
  cases b
  · go_wp2
    go_ret
    exact ⟨rfl, Below.refl _ _⟩
  go_wp2_with fail
  all_goals
    first
    | (have hc := HC.out; exfalso; omega)
    | (go_ret; exact ⟨rfl, Below.refl _ _⟩)

/-! ### STEP 1: THE WALK: the Go text returns true. 'Below w.heap.size w w'': nothing that was there has turned (Derived/Below.lean). Part the cases AHEAD of 'go_enter' where a test parts the walk; take each callee by a contract of your own. -/
theorem walk (a0 : ByteArray) (a1 : ByteArray) (a2 : Int) (a3 : Int) (a4 : Int) (a5 : Int) (a6 : Int) (a7 : Int) (w0 : a0.size ≤ maxLen) (w1 : a1.size ≤ maxLen) (w2 : (Lit.int .i64 a2).wf = true) (w3 : (Lit.int .i64 a3).wf = true) (w4 : (Lit.int .i64 a4).wf = true) (w5 : (Lit.int .i64 a5).wf = true) (w6 : (Lit.int .u8 a6).wf = true) (w7 : (Lit.int .i64 a7).wf = true) (w : World) :
    Calls Try.prog 3 #[.string a0, .string a1, .int .i64 a2, .int .i64 a3, .int .i64 a4, .int .i64 a5, .int .u8 a6, .int .i64 a7] w fun e w' => e = .returned (.bool true) ∧ Below w.heap.size w w' := by
  have hb := bytes_any a0 a1 a2 a3 a4 a5 a6 a7 w0 w1 w
  have h6 := bounds_u8 w6
  by_cases hc : a0.size ≤ 262144 ∧ a1.size ≤ 262144 ∧ 0 ≤ a2 ∧ a2 ≤ a1.size ∧ 0 ≤ a4 ∧ a4 ≤ a2 ∧ 0 ≤ a3 ∧ 0 ≤ a5 ∧ 0 ≤ a7
  · obtain ⟨c0, c1, c2, c2', c4, c4', c3, c5, c7⟩ := hc
    obtain ⟨k, rfl⟩ := Int.eq_ofNat_of_zero_le c5
    obtain ⟨j, rfl⟩ := Int.eq_ofNat_of_zero_le c7
    obtain ⟨c, hcc⟩ : ∃ c : UInt8, a6 = (c.toNat : Int) := ⟨UInt8.ofNat a6.toNat, by simp; omega⟩
    subst hcc
    by_cases hlt : k < a1.size
    · exact walk_in a0 a1 a2 a3 a4 k j c w w0 w1 c0 c1 c2 c2' c4 c4' c3 hlt hb
    · exact walk_past a0 a1 a2 a3 a4 k j c w w0 w1 c0 c1 c2 c2' c4 c4' c3 hlt hb
  · exact walk_home a0 a1 a2 a3 a4 a5 a6 a7 w w0 w1 hc hb

/-! ### THE ROW's STEP: WRITTEN OUT: LEAVE IT -/
set_option maxRecDepth 100000 in
theorem lifted (os : Os) (started : os.Started) (H : Type) (enc : TypeId × Value → H) :
    ReturnsInHanded {} Try.checked os 3 .any (Rows.fnSpaceOrEndDecidedByTheByteAtISpec.pre6 enc Try.prog Try.f3 Rows.fnSpaceOrEndDecidedByTheByteAtIRow.domain false) (Rows.fnSpaceOrEndDecidedByTheByteAtISpec.post enc Try.prog Try.f3 false true false false) := by
  refine returnsInHanded_of_change (C := Try.checked) own started (by kernel_rfl) Try.func3
    (ChangeSpec.witness6 (enc := enc) (C := Try.checked) false ⟨#[], #[.string ByteArray.empty, .string ByteArray.empty, .int .i64 0, .int .i64 0, .int .i64 0, .int .i64 0, .int .u8 0, .int .i64 0], []⟩ 8 (by kernel_rfl) (by kernel_rfl) (by kernel_rfl) (by kernel_rfl)) ?_
  intro W base args ds gs before hval0 hW hcnd _
  have hval : ∀ (j : Nat) t v, Try.f3.params[j]? = some t → args[j]? = some v → Value.okWide Try.prog W .any base t v := hval0
  have hW' := hW
  obtain ⟨p, q, hA0, hV, rfl, hfz, hnd⟩ := hW
  have hA : DataW.TrodAll enc Try.prog W 0 (fun _ => true) true Try.f3.params.toList args.toList ds p := hA0
  rw [Try.params3] at hA hval
  obtain ⟨v0, vs0, d0, ds0, p0, q0, hargs, rfl, rfl, h0, r0⟩ := trodAll_cons hA
  obtain ⟨v1, vs1, d1, ds1, p1, q1, rfl, rfl, rfl, h1, r1⟩ := trodAll_cons r0
  obtain ⟨v2, vs2, d2, ds2, p2, q2, rfl, rfl, rfl, h2, r2⟩ := trodAll_cons r1
  obtain ⟨v3, vs3, d3, ds3, p3, q3, rfl, rfl, rfl, h3, r3⟩ := trodAll_cons r2
  obtain ⟨v4, vs4, d4, ds4, p4, q4, rfl, rfl, rfl, h4, r4⟩ := trodAll_cons r3
  obtain ⟨v5, vs5, d5, ds5, p5, q5, rfl, rfl, rfl, h5, r5⟩ := trodAll_cons r4
  obtain ⟨v6, vs6, d6, ds6, p6, q6, rfl, rfl, rfl, h6, r6⟩ := trodAll_cons r5
  obtain ⟨v7, vs7, d7, ds7, p7, q7, rfl, rfl, rfl, h7, r7⟩ := trodAll_cons r6
  obtain ⟨rfl, rfl, rfl⟩ := trodAll_nil r7
  obtain rfl : args = #[v0, v1, v2, v3, v4, v5, v6, v7] := by cases args; simp_all
  obtain ⟨rfl, rfl⟩ := trodVars_none hV
  obtain ⟨a0, rfl, rfl, rfl, w0⟩ := open_string Try.underlying9 (hval 0 9 v0 rfl rfl) h0
  obtain ⟨a1, rfl, rfl, rfl, w1⟩ := open_string Try.underlying9 (hval 1 9 v1 rfl rfl) h1
  obtain ⟨a2, rfl, rfl, rfl, w2⟩ := open_int Try.underlying3 (hval 2 3 v2 rfl rfl) h2
  obtain ⟨a3, rfl, rfl, rfl, w3⟩ := open_int Try.underlying3 (hval 3 3 v3 rfl rfl) h3
  obtain ⟨a4, rfl, rfl, rfl, w4⟩ := open_int Try.underlying3 (hval 4 3 v4 rfl rfl) h4
  obtain ⟨a5, rfl, rfl, rfl, w5⟩ := open_int Try.underlying3 (hval 5 3 v5 rfl rfl) h5
  obtain ⟨a6, rfl, rfl, rfl, w6⟩ := open_int Try.underlying5 (hval 6 5 v6 rfl rfl) h6
  obtain ⟨a7, rfl, rfl, rfl, w7⟩ := open_int Try.underlying3 (hval 7 3 v7 rfl rfl) h7
  clear hA0 hval0
  simp only [List.append_nil] at hW'
  refine (walk a0 a1 a2 a3 a4 a5 a6 a7 w0 w1 w2 w3 w4 w5 w6 w7 W).mono fun e W' ⟨he, hg⟩ => ?_
  subst he
  exact ⟨_, rfl, _, _, _, [], [], [], hW', (trodAll_cons_mk (shut_bool Try.underlying4 _) trodAll_mk0), (trodAll_cons_mk (shut_string Try.underlying9 w0) (trodAll_cons_mk (shut_string Try.underlying9 w1) (trodAll_cons_mk (shut_int Try.underlying3 w2) (trodAll_cons_mk (shut_int Try.underlying3 w3) (trodAll_cons_mk (shut_int Try.underlying3 w4) (trodAll_cons_mk (shut_int Try.underlying3 w5) (trodAll_cons_mk (shut_int Try.underlying5 w6) (trodAll_cons_mk (shut_int Try.underlying3 w7) trodAll_mk0)))))))), rfl, hg.frame _, fun h => by cases h⟩

theorem over : Rows.fnSpaceOrEndDecidedByTheByteAtIRow.holds Try.pinned (OpenSpec.ofChange Rows.fnSpaceOrEndDecidedByTheByteAtISpec) :=
  OpenClaim.holds_of_wide 3 Try.f3 rfl rfl rfl rfl rfl rfl rfl ⟨rfl, rfl, rfl, rfl, rfl⟩ rfl rfl rfl rfl rfl (by kernel_rfl) Try.func3 (by kernel_rfl)
    (of_decide_eq_true (by kernel_rfl)) (by unfold Func.isWrapper; first | (rw [if_pos (by decide +kernel)]; kernel_rfl) | (rw [if_neg (by decide +kernel)]; exact ⟨rfl, rfl⟩))
    (fun os started H enc _ => lifted os started H enc)

/-- ████ THE STATEMENT ████ -/
theorem proved : Rows.FnSpaceOrEndDecidedByTheByteAtISaid :=
  over
end Go.Proofs.Qxb6613299a.fnSpaceOrEndDecidedByTheByteAtI

namespace Go.Proofs.Qxb6613299a
/-- The same, by a short name. -/
theorem fnSpaceOrEndDecidedByTheByteAtI_proved : Rows.FnSpaceOrEndDecidedByTheByteAtISaid :=
  fnSpaceOrEndDecidedByTheByteAtI.proved
end Go.Proofs.Qxb6613299a
