/-
  A PROOF OF 'Rows.FnSplitNameCharacterisedAndJoinsSaid' the frame written by program (proof-skeleton.mjs), the walk by hand.
-/
import Derived.Test.Qxb6617154aModsRows
import Derived.WalkKit
import Derived.ProofKit
import Derived.OpenShut
import Derived.ShutString
import Derived.Test.Qxb6617154aModsSplit
namespace Go.Proofs.Qxb6617154aMods.fnSplitNameCharacterisedAndJoins
open Go.ChangeShapes Go.WideShapes Go.ChangeAt Go.RowKit
open Go.ChangeMaps (open_string shut_string)
set_option linter.unusedVariables false      -- a walk need not use every 'w<i>' (that an integer argument fits its kind)

theorem own : ownKnob Trym.prog.godebug = none := by kernel_rfl

/-! ### STEP 1: THE WALK: the Go text returns true -/
theorem zzbytes_yes (a b : ByteArray) (w : World) (h : a.size + b.size ≤ 1048576) :
    Calls Trym.prog 7 #[.string a, .string b] w fun e w' => e = .returned (.bool true) ∧ w' = w := by
  go_enter Trym.func7, Trym.ntmps7
  go_wp2
  go_ret
  exact ⟨rfl, rfl⟩

theorem zzbytes_no (a b : ByteArray) (w : World) (h0 : a.size ≤ maxLen) (h1 : b.size ≤ maxLen) (h : ¬ a.size + b.size ≤ 1048576) :
    Calls Trym.prog 7 #[.string a, .string b] w fun e w' => e = .returned (.bool false) ∧ w' = w := by
  unfold maxLen at h0 h1
  by_cases c0 : 1048576 < a.size
  · go_enter Trym.func7, Trym.ntmps7
    go_wp2
    go_ret
    exact ⟨rfl, rfl⟩
  · by_cases c1 : 1048576 < b.size
    · go_enter Trym.func7, Trym.ntmps7
      go_wp2
      go_ret
      exact ⟨rfl, rfl⟩
    · go_enter Trym.func7, Trym.ntmps7
      go_wp2
      go_ret
      exact ⟨rfl, rfl⟩

theorem walk (a0 : ByteArray) (a1 : ByteArray) (w0 : a0.size ≤ maxLen) (w1 : a1.size ≤ maxLen) (w : World) :
    Calls Trym.prog 3 #[.string a0, .string a1] w fun e w' => e = .returned (.bool true) ∧ Grown w w' := by
  by_cases hn : a0.size + a1.size ≤ 1048576
  case neg =>
    go_enter Trym.func3, Trym.ntmps3
    go_wp2_with (go_at_call 7; refine (zzbytes_no a0 a1 _ w0 w1 hn).mono ?_; rintro e w' ⟨rfl, rfl⟩)
    go_ret
    exact ⟨rfl, Grown.refl _⟩
  by_cases c0 : 524288 < a0.size
  · go_enter Trym.func3, Trym.ntmps3
    go_wp2_with (go_at_call 7; refine (zzbytes_yes a0 a1 _ hn).mono ?_; rintro e w' ⟨rfl, rfl⟩)
    go_ret
    exact ⟨rfl, Grown.refl _⟩
  by_cases c1 : 524288 < a1.size
  · go_enter Trym.func3, Trym.ntmps3
    go_wp2_with (go_at_call 7; refine (zzbytes_yes a0 a1 _ hn).mono ?_; rintro e w' ⟨rfl, rfl⟩)
    go_ret
    exact ⟨rfl, Grown.refl _⟩
  cases hb : Split.hs a1
  case true =>
    go_enter Trym.func3, Trym.ntmps3
    go_wp2_with (first | (go_at_call 7; refine (zzbytes_yes a0 a1 _ hn).mono ?_; rintro e w' ⟨rfl, rfl⟩) | (go_at_call 8; refine (Split.hasSlash_any _ _ w1).mono ?_; rintro e w' ⟨rfl, rfl⟩))
    go_ret
    exact ⟨rfl, Grown.refl _⟩
  cases ha : Split.hs a0
  case false =>
    go_enter Trym.func3, Trym.ntmps3
    go_wp2_with (first | (go_at_call 7; refine (zzbytes_yes a0 a1 _ hn).mono ?_; rintro e w' ⟨rfl, rfl⟩) | (go_at_call 8; refine (Split.hasSlash_any _ _ (by assumption)).mono ?_; rintro e w' ⟨rfl, rfl⟩))
    refine (Split.zz_no a0 _ w0 ha).mono ?_
    rintro e w2 ⟨rfl, hg2⟩
    go_wp2_with (first | (go_at_call 8; refine (Split.hasSlash_any _ _ (by assumption)).mono ?_; rintro e w' ⟨rfl, rfl⟩))
    refine (Split.zz_at _ a0 a1 _ (by show (Split.join a0 a1).size ≤ 1048577; rw [Split.join_size]; omega) rfl hb).mono ?_
    rintro e w3 ⟨rfl, hg3⟩
    go_wp2
    go_ret
    exact ⟨rfl, Split.grown_trans hg2 hg3⟩
  obtain ⟨d, b, hj, hb2⟩ := Split.exists_join a0 ha
  have J : Hid (a0 = Split.join d b) := hj
  have hsz : a0.size = d.size + 1 + b.size := by rw [hj, Split.join_size]
  have hsum : ((d.size : Int) + 1 + (b.size : Int) == (a0.size : Int)) = true := by rw [beq_iff_eq]; omega
  have hd : d.size ≤ 1048576 := by omega
  have hbm : b.size ≤ maxLen := by unfold maxLen; omega
  have hbs : b.size ≤ 1048576 := by omega
  clear hj hsz
  go_enter Trym.func3, Trym.ntmps3
  go_wp2_with (first | (go_at_call 7; refine (zzbytes_yes a0 a1 _ hn).mono ?_; rintro e w' ⟨rfl, rfl⟩) | (go_at_call 8; refine (Split.hasSlash_any _ _ (by assumption)).mono ?_; rintro e w' ⟨rfl, rfl⟩))
  refine (Split.zz_at a0 d b _ (by omega) J.out hb2).mono ?_
  rintro e w2 ⟨rfl, hg2⟩
  go_wp2_with (first | (go_at_call 8; refine (Split.hasSlash_any _ _ (by assumption)).mono ?_; rintro e w' ⟨rfl, rfl⟩))
  refine (Split.zz_at _ a0 a1 _ (by show (Split.join a0 a1).size ≤ 1048577; rw [Split.join_size]; omega) rfl hb).mono ?_
  rintro e w3 ⟨rfl, hg3⟩
  go_wp2
  · go_ret
    exact ⟨rfl, Split.grown_trans hg2 hg3⟩
  · have hne : ¬ (d ++ ⟨#[47]⟩ ++ b).toList = a0.toList := by assumption
    exact absurd (congrArg ByteArray.toList J.out.symm) hne

/-! ### THE ROW's STEP: WRITTEN OUT: LEAVE IT -/
set_option maxRecDepth 100000 in
theorem lifted (os : Os) (started : os.Started) (H : Type) (enc : TypeId × Value → H) :
    ReturnsInHanded {} Trym.checked os 3 .any (Rows.fnSplitNameCharacterisedAndJoinsSpec.pre6 enc Trym.prog Trym.f3 Rows.fnSplitNameCharacterisedAndJoinsRow.domain false) (Rows.fnSplitNameCharacterisedAndJoinsSpec.post enc Trym.prog Trym.f3 false true false false) := by
  refine returnsInHanded_of_change (C := Trym.checked) own started (by kernel_rfl) Trym.func3
    (ChangeSpec.witness6 (enc := enc) (C := Trym.checked) false ⟨#[], #[.string ByteArray.empty, .string ByteArray.empty], []⟩ 8 (by kernel_rfl) (by kernel_rfl) (by kernel_rfl) (by kernel_rfl)) ?_
  intro W base args ds gs before hval0 hW hcnd _
  have hval : ∀ (j : Nat) t v, Trym.f3.params[j]? = some t → args[j]? = some v → Value.okWide Trym.prog W .any base t v := hval0
  have hW' := hW
  obtain ⟨p, q, hA0, hV, rfl, hfz, hnd⟩ := hW
  have hA : DataW.TrodAll enc Trym.prog W 0 (fun _ => true) true Trym.f3.params.toList args.toList ds p := hA0
  rw [Trym.params3] at hA hval
  obtain ⟨v0, vs0, d0, ds0, p0, q0, hargs, rfl, rfl, h0, r0⟩ := trodAll_cons hA
  obtain ⟨v1, vs1, d1, ds1, p1, q1, rfl, rfl, rfl, h1, r1⟩ := trodAll_cons r0
  obtain ⟨rfl, rfl, rfl⟩ := trodAll_nil r1
  obtain rfl : args = #[v0, v1] := by cases args; simp_all
  obtain ⟨rfl, rfl⟩ := trodVars_none hV
  obtain ⟨a0, rfl, rfl, rfl, w0⟩ := open_string Trym.underlying9 (hval 0 9 v0 rfl rfl) h0
  obtain ⟨a1, rfl, rfl, rfl, w1⟩ := open_string Trym.underlying9 (hval 1 9 v1 rfl rfl) h1
  clear hA0 hval0
  simp only [List.append_nil] at hW'
  refine (walk a0 a1 w0 w1 W).mono fun e W' ⟨he, hg⟩ => ?_
  subst he
  exact ⟨_, rfl, post_of_same (pa := []) (pv := []) hW' (fun _ _ _ => (trodAll_cons_mk (shut_bool Trym.underlying4 _) trodAll_mk0)) (fun sp _ => (trodAll_cons_mk (shut_string Trym.underlying9 w0) (trodAll_cons_mk (shut_string Trym.underlying9 w1) trodAll_mk0))) (fun _ _ => rfl) rfl
    (hg.frame _) hg.2.1 (ok_one (by kernel_rfl) rfl (okWide_bool_mk Trym.underlying4 _))⟩

theorem over : Rows.fnSplitNameCharacterisedAndJoinsRow.holds Trym.pinned (OpenSpec.ofChange Rows.fnSplitNameCharacterisedAndJoinsSpec) :=
  OpenClaim.holds_of_wide 3 Trym.f3 rfl rfl rfl rfl rfl rfl rfl ⟨rfl, rfl, rfl, rfl, rfl⟩ rfl rfl rfl rfl rfl (by kernel_rfl) Trym.func3 (by kernel_rfl)
    (of_decide_eq_true (by kernel_rfl)) (by unfold Func.isWrapper; first | (rw [if_pos (by decide +kernel)]; kernel_rfl) | (rw [if_neg (by decide +kernel)]; exact ⟨rfl, rfl⟩))
    (fun os started H enc _ => lifted os started H enc)

/-- ████ THE STATEMENT ████ -/
theorem proved : Rows.FnSplitNameCharacterisedAndJoinsSaid :=
  over
#print axioms proved
end Go.Proofs.Qxb6617154aMods.fnSplitNameCharacterisedAndJoins
