/-
  THE PROOF OF 'Rows.FnIsDigitTenWindowCountSaid': the frame by the guide's tool off its own print for that function; the walk and the plain law are mine.
-/
import Derived.Test.Qxb6613473aRows
import Derived.WalkKit
import Derived.ProofKit
import Derived.OpenShut
import Derived.ShutString
namespace Go.Proofs.Qxb6613473a.fnIsDigitTenWindowCount
open Go.ChangeShapes Go.WideShapes Go.ChangeAt Go.RowKit
open Go.ChangeMaps (open_string shut_string)
set_option linter.unusedVariables false      -- a walk need not use every 'w<i>' (that an integer argument fits its kind)

theorem own : ownKnob Try.prog.godebug = none := by kernel_rfl

/-! ### THE PLAIN LAW: how many of the ten bytes from c on are digits -/
theorem ret_bool {a b : Bool} (h : a = b) : Ending.returned (.bool a) = .returned (.bool b) := by rw [h]

def digB (n : Int) : Bool := decide (48 ≤ n) && decide (n ≤ 57)

def cnt (c : Nat) : Nat → Nat
  | 0 => 0
  | j + 1 => cnt c j + if digB (((c + j) % 256 : Nat) : Int) = true then 1 else 0

theorem cnt_le (c j : Nat) : cnt c j ≤ j := by
  induction j with
  | zero => exact Nat.le_refl _
  | succ j ih =>
    unfold cnt
    split <;> omega

theorem cnt_ten : ∀ c : Nat, c < 256 → (cnt c 10 : Int) = if c < 38 then 0 else if c < 48 then (c : Int) - 38 else if c < 58 then 58 - (c : Int) else 0 := by
  decide +kernel

/-! ### THE CALLEE: ZZisDigit (4) -/
theorem dig_any (n : Int) (w : World) :
    Calls Try.prog 4 #[.int .u8 n] w fun e w' => e = .returned (.bool (digB n)) ∧ w' = w := by
  by_cases h1 : 48 ≤ n
  · go_enter Try.func4, Try.ntmps4
    go_wp2
    all_goals
      go_ret
      exact ⟨ret_bool (by unfold digB; simp; try omega), rfl⟩
  · go_enter Try.func4, Try.ntmps4
    go_wp2
    all_goals
      go_ret
      exact ⟨ret_bool (by unfold digB; simp; try omega), rfl⟩

theorem dig_is (n : Int) (b : Bool) (h : digB n = b) (w : World) :
    Calls Try.prog 4 #[.int .u8 n] w fun e w' => e = .returned (.bool b) ∧ w' = w := by
  subst h
  exact dig_any n w

theorem cnt_yes (c k : Nat) (h : digB (((c : Int) + (k : Int)) % 256) = true) : cnt c (k + 1) = cnt c k + 1 := by
  have e : ((((c + k) % 256 : Nat)) : Int) = ((c : Int) + (k : Int)) % 256 := by omega
  show cnt c k + (if digB (((c + k) % 256 : Nat) : Int) = true then 1 else 0) = _
  rw [e, if_pos h]

theorem cnt_no (c k : Nat) (h : ¬ digB (((c : Int) + (k : Int)) % 256) = true) : cnt c (k + 1) = cnt c k := by
  have e : ((((c + k) % 256 : Nat)) : Int) = ((c : Int) + (k : Int)) % 256 := by omega
  show cnt c k + (if digB (((c + k) % 256 : Nat) : Int) = true then 1 else 0) = _
  rw [e, if_neg h]
  rfl

/-! ### STEP 1: THE WALK: the Go text returns true. 'Grown w w'': the world has at most new blocks (Derived/RowKit3.lean). Part the cases AHEAD of 'go_enter' where a test parts the walk; take each callee by a contract of your own. -/
theorem walk (a0 : Int) (w0 : (Lit.int .u8 a0).wf = true) (w : World) :
    Calls Try.prog 3 #[.int .u8 a0] w fun e w' => e = .returned (.bool true) ∧ Grown w w' := by
  have hb := bounds_u8 w0
  clear w0
  obtain ⟨c, rfl⟩ := Int.eq_ofNat_of_zero_le hb.1
  have hc : c < 256 := by omega
  clear hb
  go_enter Try.func3, Try.ntmps3
  go_wp2_with fail
  go_loop [3, 4] (fun n i => ∃ k : Nat, k ≤ 10 ∧ i = .int .i64 k ∧ n = .int .i64 (cnt c k)) (fun _ i => 10 - (intOf i).toNat)
  case atStart => exact ⟨0, Nat.zero_le _, rfl, rfl⟩
  case round =>
    obtain ⟨k, hk, rfl, rfl⟩ := hrel
    have hn := cnt_le c k
    by_cases hlt : k < 10
    · by_cases hd : digB (((c : Int) + (k : Int)) % 256) = true
      · have HS : Hid (cnt c (k + 1) = cnt c k + 1) := cnt_yes c k hd
        have HD : Hid (digB (((c : Int) + (k : Int)) % 256) = true) := hd
        clear hd
        go_wp2_with fail
        refine (dig_is _ true HD.out _).mono ?_
        rintro e w' ⟨rfl, hw⟩
        rw [hw]
        clear hw
        go_wp2
        go_round
        case rel => exact ⟨k + 1, by omega, by go_num, by rw [HS.out]; go_num⟩
        case measure => simp [intOf]; omega
      · have HS : Hid (cnt c (k + 1) = cnt c k) := cnt_no c k hd
        have HD : Hid (digB (((c : Int) + (k : Int)) % 256) = false) := Bool.eq_false_iff.2 hd
        clear hd
        go_wp2_with fail
        refine (dig_is _ false HD.out _).mono ?_
        rintro e w' ⟨rfl, hw⟩
        rw [hw]
        clear hw
        go_wp2
        go_round
        case rel => exact ⟨k + 1, by omega, by go_num, by rw [HS.out]⟩
        case measure => simp [intOf]; omega
    · have hk10 : k = 10 := by omega
      subst hk10
      have HT : Hid ((cnt c 10 : Int) = if c < 38 then 0 else if c < 48 then (c : Int) - 38 else if c < 58 then 58 - (c : Int) else 0) := cnt_ten c hc
      go_wp2
      all_goals
        go_ret
        refine ⟨ret_bool ?_, Grown.refl _⟩
        have := HT.out
        simp
        split at this <;> try split at this
        all_goals omega

/-! ### THE ROW's STEP: WRITTEN OUT: LEAVE IT -/
set_option maxRecDepth 100000 in
theorem lifted (os : Os) (started : os.Started) (H : Type) (enc : TypeId × Value → H) :
    ReturnsInHanded {} Try.checked os 3 .any (Rows.fnIsDigitTenWindowCountSpec.pre6 enc Try.prog Try.f3 Rows.fnIsDigitTenWindowCountRow.domain false) (Rows.fnIsDigitTenWindowCountSpec.post enc Try.prog Try.f3 false true false false) := by
  refine returnsInHanded_of_change (C := Try.checked) own started (by kernel_rfl) Try.func3
    (ChangeSpec.witness6 (enc := enc) (C := Try.checked) false ⟨#[], #[.int .u8 0], []⟩ 8 (by kernel_rfl) (by kernel_rfl) (by kernel_rfl) (by kernel_rfl)) ?_
  intro W base args ds gs before hval0 hW hcnd _
  have hval : ∀ (j : Nat) t v, Try.f3.params[j]? = some t → args[j]? = some v → Value.okWide Try.prog W .any base t v := hval0
  have hW' := hW
  obtain ⟨p, q, hA0, hV, rfl, hfz, hnd⟩ := hW
  have hA : DataW.TrodAll enc Try.prog W 0 (fun _ => true) true Try.f3.params.toList args.toList ds p := hA0
  rw [Try.params3] at hA hval
  obtain ⟨v0, vs0, d0, ds0, p0, q0, hargs, rfl, rfl, h0, r0⟩ := trodAll_cons hA
  obtain ⟨rfl, rfl, rfl⟩ := trodAll_nil r0
  obtain rfl : args = #[v0] := by cases args; simp_all
  obtain ⟨rfl, rfl⟩ := trodVars_none hV
  obtain ⟨a0, rfl, rfl, rfl, w0⟩ := open_int Try.underlying5 (hval 0 5 v0 rfl rfl) h0
  clear hA0 hval0
  simp only [List.append_nil] at hW'
  refine (walk a0 w0 W).mono fun e W' ⟨he, hg⟩ => ?_
  subst he
  exact ⟨_, rfl, post_of_same (pa := []) (pv := []) hW' (fun _ _ _ => (trodAll_cons_mk (shut_bool Try.underlying4 _) trodAll_mk0)) (fun sp _ => (trodAll_cons_mk (shut_int Try.underlying5 w0) trodAll_mk0)) (fun _ _ => rfl) rfl
    (hg.frame _) hg.2.1 (ok_one (by kernel_rfl) rfl (okWide_bool_mk Try.underlying4 _))⟩

theorem over : Rows.fnIsDigitTenWindowCountRow.holds Try.pinned (OpenSpec.ofChange Rows.fnIsDigitTenWindowCountSpec) :=
  OpenClaim.holds_of_wide 3 Try.f3 rfl rfl rfl rfl rfl rfl rfl ⟨rfl, rfl, rfl, rfl, rfl⟩ rfl rfl rfl rfl rfl (by kernel_rfl) Try.func3 (by kernel_rfl)
    (of_decide_eq_true (by kernel_rfl)) (by unfold Func.isWrapper; first | (rw [if_pos (by decide +kernel)]; kernel_rfl) | (rw [if_neg (by decide +kernel)]; exact ⟨rfl, rfl⟩))
    (fun os started H enc _ => lifted os started H enc)

/-- ████ THE STATEMENT ████ -/
theorem proved : Rows.FnIsDigitTenWindowCountSaid :=
  over
end Go.Proofs.Qxb6613473a.fnIsDigitTenWindowCount

namespace Go.Proofs.Qxb6613473a
/-- The same, by a short name. -/
theorem fnIsDigitTenWindowCount_proved : Rows.FnIsDigitTenWindowCountSaid :=
  fnIsDigitTenWindowCount.proved
end Go.Proofs.Qxb6613473a
