/-
  The proof of 'Rows.FnExcerptOfValidUTF8KeepsWholeCharactersTwiceSaid': the frame is the given shell's; the walk is filled.
-/
import Derived.Test.Qxb6627547aRows
import Derived.WalkKit
import Derived.ProofKit
import Derived.OpenShut
import Derived.ShutString
import Derived.Test.Qxb6627547aModel
import Derived.Test.Qxb6627547aValid
namespace Go.Proofs.Qxb6627547a.fnExcerptOfValidUTF8KeepsWholeCharactersTwice
open Go.ChangeShapes Go.WideShapes Go.ChangeAt Go.RowKit
open Go.ChangeMaps (open_string shut_string)
set_option linter.unusedVariables false      -- a walk need not use every 'w<i>' (that an integer argument fits its kind)

theorem own : ownKnob Try.prog.godebug = none := by kernel_rfl

theorem bytes8_any (s : ByteArray) (w : World) (h : s.size ≤ 1048576) :
    Calls Try.prog 8 #[.string s] w fun e w' => e = .returned (.bool true) ∧ w' = w := by
  go_enter Try.func8, Try.ntmps8
  go_wp2
  go_ret
  exact ⟨rfl, rfl⟩
theorem bytes8_no (s : ByteArray) (w : World) (h : 1048576 < s.size) :
    Calls Try.prog 8 #[.string s] w fun e w' => e = .returned (.bool false) ∧ w' = w := by
  go_enter Try.func8, Try.ntmps8
  go_wp2
  go_ret
  exact ⟨rfl, rfl⟩

theorem ex_wf {x : ByteArray} (h : Plain.WF x) : Plain.WF (Plain.exS x) := by
  by_cases e : x.size ≤ 60
  · rw [Plain.exS_short e]; exact h
  · exact Plain.WF_ex (by omega) h

theorem ex_size {x : ByteArray} (h : x.size ≤ 2097152) : (Plain.exS x).size ≤ 2097152 := by
  by_cases e : x.size ≤ 60
  · rw [Plain.exS_short e]; exact h
  · have := Plain.cutN_bd x
    rw [Plain.exL_size (by omega)]; omega

/-! ### STEP 1: THE WALK: the Go text returns true. 'Grown w w'': the world has at most new blocks (Derived/RowKit3.lean). Part the cases AHEAD of 'go_enter' where a test parts the walk; take each callee by a contract of your own. -/
theorem walk (a0 : ByteArray) (w0 : a0.size ≤ maxLen) (w : World) :
    Calls Try.prog 4 #[.string a0] w fun e w' => e = .returned (.bool true) ∧ Grown w w' := by
  by_cases hb : a0.size ≤ 1048576
  · go_enter Try.func4, Try.ntmps4
    go_wp2_with fail
    refine (bytes8_any _ _ hb).mono ?_
    rintro e w' ⟨rfl, rfl⟩
    go_wp2_with fail
    refine (valid_any _ _ (by omega)).mono ?_
    rintro e w' ⟨⟨b, rfl, hwf⟩, rfl⟩
    cases b
    · clear hwf
      go_wp2
      go_ret
      exact ⟨rfl, Grown.refl _⟩
    · have F : Hid (Plain.WF a0) := hwf rfl
      clear hwf
      have F2 : Hid (Plain.WF (Plain.exS a0)) := ex_wf F.out
      have hz : (Plain.exS a0).size ≤ 2097152 := ex_size (by omega)
      go_wp2_with fail
      refine (ex_any _ _ (by omega)).mono ?_
      rintro e w' ⟨rfl, rfl⟩
      go_wp2_with fail
      refine (model_any _ _ (by omega) F).mono ?_
      rintro e w' ⟨rfl, rfl⟩
      go_wp2_with fail
      refine (ex_any _ _ hz).mono ?_
      rintro e w' ⟨rfl, rfl⟩
      go_wp2_with fail
      refine (model_any _ _ hz F2).mono ?_
      rintro e w' ⟨rfl, rfl⟩
      go_wp2
      go_ret
      exact ⟨ret_bool (by simp), Grown.refl _⟩
  · go_enter Try.func4, Try.ntmps4
    go_wp2_with fail
    refine (bytes8_no _ _ (by omega)).mono ?_
    rintro e w' ⟨rfl, rfl⟩
    go_wp2
    go_ret
    exact ⟨rfl, Grown.refl _⟩

/-! ### THE ROW's STEP: WRITTEN OUT: LEAVE IT -/
set_option maxRecDepth 100000 in
theorem lifted (os : Os) (started : os.Started) (H : Type) (enc : TypeId × Value → H) :
    ReturnsInHanded {} Try.checked os 4 .any (Rows.fnExcerptOfValidUTF8KeepsWholeCharactersTwiceSpec.pre6 enc Try.prog Try.f4 Rows.fnExcerptOfValidUTF8KeepsWholeCharactersTwiceRow.domain false) (Rows.fnExcerptOfValidUTF8KeepsWholeCharactersTwiceSpec.post enc Try.prog Try.f4 false true false false) := by
  refine returnsInHanded_of_change (C := Try.checked) own started (by kernel_rfl) Try.func4
    (ChangeSpec.witness6 (enc := enc) (C := Try.checked) false ⟨#[], #[.string ByteArray.empty], []⟩ 8 (by kernel_rfl) (by kernel_rfl) (by kernel_rfl) (by kernel_rfl)) ?_
  intro W base args ds gs before hval0 hW hcnd _
  have hval : ∀ (j : Nat) t v, Try.f4.params[j]? = some t → args[j]? = some v → Value.okWide Try.prog W .any base t v := hval0
  have hW' := hW
  obtain ⟨p, q, hA0, hV, rfl, hfz, hnd⟩ := hW
  have hA : DataW.TrodAll enc Try.prog W 0 (fun _ => true) true Try.f4.params.toList args.toList ds p := hA0
  rw [Try.params4] at hA hval
  obtain ⟨v0, vs0, d0, ds0, p0, q0, hargs, rfl, rfl, h0, r0⟩ := trodAll_cons hA
  obtain ⟨rfl, rfl, rfl⟩ := trodAll_nil r0
  obtain rfl : args = #[v0] := by cases args; simp_all
  obtain ⟨rfl, rfl⟩ := trodVars_none hV
  obtain ⟨a0, rfl, rfl, rfl, w0⟩ := open_string Try.underlying9 (hval 0 9 v0 rfl rfl) h0
  clear hA0 hval0
  simp only [List.append_nil] at hW'
  refine (walk a0 w0 W).mono fun e W' ⟨he, hg⟩ => ?_
  subst he
  exact ⟨_, rfl, post_of_same (pa := []) (pv := []) hW' (fun _ _ _ => (trodAll_cons_mk (shut_bool Try.underlying4 _) trodAll_mk0)) (fun sp _ => (trodAll_cons_mk (shut_string Try.underlying9 w0) trodAll_mk0)) (fun _ _ => rfl) rfl
    (hg.frame _) hg.2.1 (ok_one (by kernel_rfl) rfl (okWide_bool_mk Try.underlying4 _))⟩

theorem over : Rows.fnExcerptOfValidUTF8KeepsWholeCharactersTwiceRow.holds Try.pinned (OpenSpec.ofChange Rows.fnExcerptOfValidUTF8KeepsWholeCharactersTwiceSpec) :=
  OpenClaim.holds_of_wide 4 Try.f4 rfl rfl rfl rfl rfl rfl rfl ⟨rfl, rfl, rfl, rfl, rfl⟩ rfl rfl rfl rfl rfl (by kernel_rfl) Try.func4 (by kernel_rfl)
    (of_decide_eq_true (by kernel_rfl)) (by unfold Func.isWrapper; first | (rw [if_pos (by decide +kernel)]; kernel_rfl) | (rw [if_neg (by decide +kernel)]; exact ⟨rfl, rfl⟩))
    (fun os started H enc _ => lifted os started H enc)

/-- ████ THE STATEMENT ████ -/
theorem proved : Rows.FnExcerptOfValidUTF8KeepsWholeCharactersTwiceSaid :=
  over
#print axioms proved
end Go.Proofs.Qxb6627547a.fnExcerptOfValidUTF8KeepsWholeCharactersTwice
