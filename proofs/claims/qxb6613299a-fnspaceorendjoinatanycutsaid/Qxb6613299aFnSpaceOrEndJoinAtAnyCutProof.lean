/-
  THE PROOF OF 'Rows.FnSpaceOrEndJoinAtAnyCutSaid': the frame by the guide's tool off its own print for that function; the walk and the plain law are mine.
-/
import Derived.Test.Qxb6613299aRows
import Derived.Test.Qxb6613299aSoe
import Derived.WalkKit
import Derived.ProofKit
import Derived.OpenShut
import Derived.ShutString
namespace Go.Proofs.Qxb6613299a.fnSpaceOrEndJoinAtAnyCut
open Go.ChangeShapes Go.WideShapes Go.ChangeAt Go.RowKit
open Go.ChangeMaps (open_string shut_string)
set_option linter.unusedVariables false      -- a walk need not use every 'w<i>' (that an integer argument fits its kind)

theorem own : ownKnob Try.prog.godebug = none := by kernel_rfl

/-! ### THE PLAIN LAW: no Go in sight -/
theorem soe_left (a b : ByteArray) (k : Nat) (h : k < a.size) : soeB (a ++ b) k = soeB a k := by
  have h2 : k < (a ++ b).size := by rw [ByteArray.size_append]; omega
  rw [soeB_at _ _ h2, soeB_at _ _ h, ByteArray.getElem_append_left h]

theorem soe_right (a b : ByteArray) (k : Nat) (h : a.size ≤ k) : soeB (a ++ b) k = soeB b (k - a.size) := by
  by_cases hb : k - a.size < b.size
  · have h2 : k < (a ++ b).size := by rw [ByteArray.size_append]; omega
    rw [soeB_at _ _ h2, soeB_at _ _ hb, ByteArray.getElem_append_right h]
  · have h2 : ¬ k < (a ++ b).size := by rw [ByteArray.size_append]; omega
    rw [soeB_end _ _ h2, soeB_end _ _ hb]

/-! ### THE CALLEE THAT BOUNDS THE LENGTHS: it answers some bool; the world stands. -/
set_option maxHeartbeats 400000 in
theorem bytes_any (a0 a1 a2 : ByteArray) (a3 a4 : Int) (w0 : a0.size ≤ maxLen) (w1 : a1.size ≤ maxLen) (w2 : a2.size ≤ maxLen) (w : World) :
    Calls Try.prog 8 #[.string a0, .string a1, .string a2, .int .i64 a3, .int .i64 a4] w fun e w' => ∃ b, e = .returned (.bool b) ∧ w' = w := by
  unfold maxLen at w0 w1 w2
  go_enter Try.func8, Try.ntmps8
  go_wp2
  all_goals
    go_ret
    exact ⟨_, rfl, rfl⟩

/-! ### STEP 1: THE WALK: the Go text returns true. 'Grown w w'': the world has at most new blocks (Derived/RowKit3.lean). Part the cases AHEAD of 'go_enter' where a test parts the walk; take each callee by a contract of your own. -/
theorem walk (a0 : ByteArray) (a1 : ByteArray) (a2 : ByteArray) (a3 : Int) (a4 : Int) (w0 : a0.size ≤ maxLen) (w1 : a1.size ≤ maxLen) (w2 : a2.size ≤ maxLen) (w3 : (Lit.int .i64 a3).wf = true) (w4 : (Lit.int .i64 a4).wf = true) (w : World) :
    Calls Try.prog 4 #[.string a0, .string a1, .string a2, .int .i64 a3, .int .i64 a4] w fun e w' => e = .returned (.bool true) ∧ Grown w w' := by
  have e0 : soeB a1 (a1.size : Int).toNat = true := soeB_end _ _ (by simp)
  have hb := bytes_any a0 a1 a2 a3 a4 w0 w1 w2 w
  unfold maxLen at w0 w1 w2
  by_cases hc : a0.size ≤ 262144 ∧ a1.size ≤ 262144 ∧ a2.size ≤ 262144 ∧ 0 ≤ a3 ∧ 0 ≤ a4
  · obtain ⟨c0, c1, c2, c3, c4⟩ := hc
    by_cases hlt : a4 < a1.size
    · have el : soeB (a1 ++ a2) a4.toNat = soeB a1 a4.toNat := soe_left _ _ _ (by omega)
      go_enter Try.func4, Try.ntmps4
      go_wp2_with fail
      refine hb.mono ?_
      rintro e w' ⟨b, rfl, rfl⟩
      clear hb
      cases b
      · go_wp2
        go_ret
        exact ⟨rfl, Grown.refl _⟩
      go_wp2_with fail
      refine (soe_any _ _ _ _ _ _ (by omega) _).mono ?_
      rintro e w1 ⟨rfl, g1⟩
      go_wp2_with fail
      refine (soe_any _ _ _ _ _ _ (by omega) _).mono ?_
      rintro e w2 ⟨rfl, g2⟩
      go_wp2_with fail
      refine (soe_any _ _ _ _ _ _ (by omega) _).mono ?_
      rintro e w3 ⟨rfl, g3⟩
      go_wp2
      go_ret
      exact ⟨ret_bool (by simp), Grown.trans g1 (Grown.trans g2 g3)⟩
    · have el : soeB (a1 ++ a2) a4.toNat = soeB a2 (a4 - a1.size).toNat := by
        rw [soe_right _ _ _ (by omega)]
        congr 1
        omega
      have hw : wrap64 (a4 - a1.size) = a4 - a1.size := by
        have := bounds_i64 w4
        unfold wrap64
        omega
      go_enter Try.func4, Try.ntmps4
      go_wp2_with fail
      refine hb.mono ?_
      rintro e w' ⟨b, rfl, rfl⟩
      clear hb
      cases b
      · go_wp2
        go_ret
        exact ⟨rfl, Grown.refl _⟩
      go_wp2_with fail
      refine (soe_any _ _ _ _ _ _ (by omega) _).mono ?_
      rintro e w1 ⟨rfl, g1⟩
      go_wp2_with fail
      refine (soe_any _ _ _ _ _ _ (by omega) _).mono ?_
      rintro e w2 ⟨rfl, g2⟩
      go_wp2_with fail
      refine (soe_any _ _ _ _ _ _ (by omega) _).mono ?_
      rintro e w3 ⟨rfl, g3⟩
      go_wp2
      go_ret
      exact ⟨ret_bool (by simp), Grown.trans g1 (Grown.trans g2 g3)⟩
  · clear e0
    by_cases c0 : a0.size ≤ 262144
    · by_cases c1 : a1.size ≤ 262144
      · by_cases c2 : a2.size ≤ 262144
        · by_cases c3 : 0 ≤ a3
          · have c4 : a4 < 0 := by omega
            clear hc
            go_enter Try.func4, Try.ntmps4
            go_wp2_with fail
            refine hb.mono ?_
            rintro e w' ⟨b, rfl, rfl⟩
            clear hb
            cases b <;> (go_wp2; go_ret; exact ⟨rfl, Grown.refl _⟩)
          · clear hc
            go_enter Try.func4, Try.ntmps4
            go_wp2_with fail
            refine hb.mono ?_
            rintro e w' ⟨b, rfl, rfl⟩
            clear hb
            cases b <;> (go_wp2; go_ret; exact ⟨rfl, Grown.refl _⟩)
        · clear hc
          go_enter Try.func4, Try.ntmps4
          go_wp2_with fail
          refine hb.mono ?_
          rintro e w' ⟨b, rfl, rfl⟩
          clear hb
          cases b <;> (go_wp2; go_ret; exact ⟨rfl, Grown.refl _⟩)
      · clear hc
        go_enter Try.func4, Try.ntmps4
        go_wp2_with fail
        refine hb.mono ?_
        rintro e w' ⟨b, rfl, rfl⟩
        clear hb
        cases b <;> (go_wp2; go_ret; exact ⟨rfl, Grown.refl _⟩)
    · clear hc
      go_enter Try.func4, Try.ntmps4
      go_wp2_with fail
      refine hb.mono ?_
      rintro e w' ⟨b, rfl, rfl⟩
      clear hb
      cases b <;> (go_wp2; go_ret; exact ⟨rfl, Grown.refl _⟩)

/-! ### THE ROW's STEP: WRITTEN OUT: LEAVE IT -/
set_option maxRecDepth 100000 in
theorem lifted (os : Os) (started : os.Started) (H : Type) (enc : TypeId × Value → H) :
    ReturnsInHanded {} Try.checked os 4 .any (Rows.fnSpaceOrEndJoinAtAnyCutSpec.pre6 enc Try.prog Try.f4 Rows.fnSpaceOrEndJoinAtAnyCutRow.domain false) (Rows.fnSpaceOrEndJoinAtAnyCutSpec.post enc Try.prog Try.f4 false true false false) := by
  refine returnsInHanded_of_change (C := Try.checked) own started (by kernel_rfl) Try.func4
    (ChangeSpec.witness6 (enc := enc) (C := Try.checked) false ⟨#[], #[.string ByteArray.empty, .string ByteArray.empty, .string ByteArray.empty, .int .i64 0, .int .i64 0], []⟩ 8 (by kernel_rfl) (by kernel_rfl) (by kernel_rfl) (by kernel_rfl)) ?_
  intro W base args ds gs before hval0 hW hcnd _
  have hval : ∀ (j : Nat) t v, Try.f4.params[j]? = some t → args[j]? = some v → Value.okWide Try.prog W .any base t v := hval0
  have hW' := hW
  obtain ⟨p, q, hA0, hV, rfl, hfz, hnd⟩ := hW
  have hA : DataW.TrodAll enc Try.prog W 0 (fun _ => true) true Try.f4.params.toList args.toList ds p := hA0
  rw [Try.params4] at hA hval
  obtain ⟨v0, vs0, d0, ds0, p0, q0, hargs, rfl, rfl, h0, r0⟩ := trodAll_cons hA
  obtain ⟨v1, vs1, d1, ds1, p1, q1, rfl, rfl, rfl, h1, r1⟩ := trodAll_cons r0
  obtain ⟨v2, vs2, d2, ds2, p2, q2, rfl, rfl, rfl, h2, r2⟩ := trodAll_cons r1
  obtain ⟨v3, vs3, d3, ds3, p3, q3, rfl, rfl, rfl, h3, r3⟩ := trodAll_cons r2
  obtain ⟨v4, vs4, d4, ds4, p4, q4, rfl, rfl, rfl, h4, r4⟩ := trodAll_cons r3
  obtain ⟨rfl, rfl, rfl⟩ := trodAll_nil r4
  obtain rfl : args = #[v0, v1, v2, v3, v4] := by cases args; simp_all
  obtain ⟨rfl, rfl⟩ := trodVars_none hV
  obtain ⟨a0, rfl, rfl, rfl, w0⟩ := open_string Try.underlying9 (hval 0 9 v0 rfl rfl) h0
  obtain ⟨a1, rfl, rfl, rfl, w1⟩ := open_string Try.underlying9 (hval 1 9 v1 rfl rfl) h1
  obtain ⟨a2, rfl, rfl, rfl, w2⟩ := open_string Try.underlying9 (hval 2 9 v2 rfl rfl) h2
  obtain ⟨a3, rfl, rfl, rfl, w3⟩ := open_int Try.underlying3 (hval 3 3 v3 rfl rfl) h3
  obtain ⟨a4, rfl, rfl, rfl, w4⟩ := open_int Try.underlying3 (hval 4 3 v4 rfl rfl) h4
  clear hA0 hval0
  simp only [List.append_nil] at hW'
  refine (walk a0 a1 a2 a3 a4 w0 w1 w2 w3 w4 W).mono fun e W' ⟨he, hg⟩ => ?_
  subst he
  exact ⟨_, rfl, post_of_same (pa := []) (pv := []) hW' (fun _ _ _ => (trodAll_cons_mk (shut_bool Try.underlying4 _) trodAll_mk0)) (fun sp _ => (trodAll_cons_mk (shut_string Try.underlying9 w0) (trodAll_cons_mk (shut_string Try.underlying9 w1) (trodAll_cons_mk (shut_string Try.underlying9 w2) (trodAll_cons_mk (shut_int Try.underlying3 w3) (trodAll_cons_mk (shut_int Try.underlying3 w4) trodAll_mk0)))))) (fun _ _ => rfl) rfl
    (hg.frame _) hg.2.1 (ok_one (by kernel_rfl) rfl (okWide_bool_mk Try.underlying4 _))⟩

theorem over : Rows.fnSpaceOrEndJoinAtAnyCutRow.holds Try.pinned (OpenSpec.ofChange Rows.fnSpaceOrEndJoinAtAnyCutSpec) :=
  OpenClaim.holds_of_wide 4 Try.f4 rfl rfl rfl rfl rfl rfl rfl ⟨rfl, rfl, rfl, rfl, rfl⟩ rfl rfl rfl rfl rfl (by kernel_rfl) Try.func4 (by kernel_rfl)
    (of_decide_eq_true (by kernel_rfl)) (by unfold Func.isWrapper; first | (rw [if_pos (by decide +kernel)]; kernel_rfl) | (rw [if_neg (by decide +kernel)]; exact ⟨rfl, rfl⟩))
    (fun os started H enc _ => lifted os started H enc)

/-- ████ THE STATEMENT ████ -/
theorem proved : Rows.FnSpaceOrEndJoinAtAnyCutSaid :=
  over
end Go.Proofs.Qxb6613299a.fnSpaceOrEndJoinAtAnyCut

namespace Go.Proofs.Qxb6613299a
/-- The same, by a short name. -/
theorem fnSpaceOrEndJoinAtAnyCut_proved : Rows.FnSpaceOrEndJoinAtAnyCutSaid :=
  fnSpaceOrEndJoinAtAnyCut.proved
end Go.Proofs.Qxb6613299a
