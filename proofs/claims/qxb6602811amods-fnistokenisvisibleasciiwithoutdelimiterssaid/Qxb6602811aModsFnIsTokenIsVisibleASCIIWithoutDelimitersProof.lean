/-
  A PROOF OF 'Rows.FnIsTokenIsVisibleASCIIWithoutDelimitersSaid' ('example.com/nonce/nonce/zzlaws_root_b1.FnIsTokenIsVisibleASCIIWithoutDelimiters'); its frame WRITTEN BY PROGRAM (proof-skeleton.mjs) off the guide's own print for that function.
  The walk is filled; all else is the guide's template at this function's number and types.
-/
import Derived.Test.Qxb6602811aModsRows
import Derived.Test.Qxb6602811aModsTokWalks
import Derived.WalkKit
import Derived.ProofKit
import Derived.OpenShut
import Derived.ShutString
namespace Go.Proofs.Qxb6602811aMods.fnIsTokenIsVisibleASCIIWithoutDelimiters
open Go.ChangeShapes Go.WideShapes Go.ChangeAt Go.RowKit
open Go.ChangeMaps (open_string shut_string)
set_option linter.unusedVariables false      -- a walk need not use every 'w<i>' (that an integer argument fits its kind)

theorem own : ownKnob Trym.prog.godebug = none := by kernel_rfl

/-! ### STEP 1: THE WALK: the Go text returns true. 'Grown w w'': the world has at most new blocks (Derived/RowKit3.lean). Part the cases AHEAD of 'go_enter' where a test parts the walk; take each callee by a contract of your own. -/
theorem walk (a0 : ByteArray) (w0 : a0.size ≤ maxLen) (w : World) :
    Calls Trym.prog 3 #[.string a0] w fun e w' => e = .returned (.bool true) ∧ Grown w w' := by
  by_cases hm : a0.size ≤ 1048576
  · by_cases hpos : 0 < a0.size
    · have he := isEmpty_no a0 hpos
      go_enter Trym.func3, Trym.ntmps3
      go_wp2_with (go_at_call 5; refine (bytes_yes _ _ hm).mono ?_; rintro e w' ⟨rfl, rfl⟩)
      go_loop [3, 4] (fun wt i => ∃ k : Nat, k ≤ a0.size ∧ i = .int .i64 k ∧ wt = .bool true ∧ allT (a0.data.toList.take k) = true) (fun _ i => a0.size - (intOf i).toNat)
      case atStart => exact ⟨0, Nat.zero_le _, rfl, by simp, rfl⟩
      case round =>
        obtain ⟨k, hk, rfl, rfl, hall⟩ := hrel
        have HA : Hid (allT (a0.data.toList.take k) = true) := hall
        clear hall
        by_cases hlt : k < a0.size
        · cases htc : tchar (a0[k].toNat : Int)
          · have hno := law_no a0 k hlt htc
            go_wp2_with (first
              | (go_at_call 6; refine (tchar_any _ _ (Int.natCast_nonneg _) (byte_le _)).mono ?_; rintro e w' ⟨rfl, rfl⟩)
              | (go_at_call 7; refine (zz_some _ _ he hm).mono ?_; rintro e w' ⟨rfl, rfl⟩))
            go_ret
            exact ⟨rfl, Grown.refl _⟩
          · have HT : Hid (allT (a0.data.toList.take (k + 1)) = true) := law_yes a0 k hlt HA.out htc
            go_wp2_with (go_at_call 6; refine (tchar_any _ _ (Int.natCast_nonneg _) (byte_le _)).mono ?_; rintro e w' ⟨rfl, rfl⟩)
            go_round
            case rel => exact ⟨k + 1, by omega, by go_num, rfl, HT.out⟩
            case measure => simp [intOf]; omega
        · have hyes := all_done a0 k hlt HA.out
          have hyes' : allT a0.data.toList = true := hyes.symm
          clear hyes
          go_wp2_with (go_at_call 7; refine (zz_some _ _ he hm).mono ?_; rintro e w' ⟨rfl, rfl⟩)
          go_ret
          exact ⟨rfl, Grown.refl _⟩
    · have he := isEmpty_yes a0 hpos
      go_enter Trym.func3, Trym.ntmps3
      go_wp2_with (go_at_call 5; refine (bytes_yes _ _ hm).mono ?_; rintro e w' ⟨rfl, rfl⟩)
      refine wp_loop_rounds 1 ?_
      rw [rounds_succ]
      go_wp2_with (go_at_call 7; refine (zz_empty _ _ he).mono ?_; rintro e w' ⟨rfl, rfl⟩)
      go_ret
      exact ⟨rfl, Grown.refl _⟩
  · go_enter Trym.func3, Trym.ntmps3
    go_wp2_with (go_at_call 5; refine (bytes_no _ _ hm).mono ?_; rintro e w' ⟨rfl, rfl⟩)
    go_ret
    exact ⟨rfl, Grown.refl _⟩

/-! ### THE ROW's STEP: WRITTEN OUT: LEAVE IT -/
set_option maxRecDepth 100000 in
theorem lifted (os : Os) (started : os.Started) (H : Type) (enc : TypeId × Value → H) :
    ReturnsInHanded {} Trym.checked os 3 .any (Rows.fnIsTokenIsVisibleASCIIWithoutDelimitersSpec.pre6 enc Trym.prog Trym.f3 Rows.fnIsTokenIsVisibleASCIIWithoutDelimitersRow.domain false) (Rows.fnIsTokenIsVisibleASCIIWithoutDelimitersSpec.post enc Trym.prog Trym.f3 false true false false) := by
  refine returnsInHanded_of_change (C := Trym.checked) own started (by kernel_rfl) Trym.func3
    (ChangeSpec.witness6 (enc := enc) (C := Trym.checked) false ⟨#[], #[.string ByteArray.empty], []⟩ 8 (by kernel_rfl) (by kernel_rfl) (by kernel_rfl) (by kernel_rfl)) ?_
  intro W base args ds gs before hval0 hW hcnd _
  have hval : ∀ (j : Nat) t v, Trym.f3.params[j]? = some t → args[j]? = some v → Value.okWide Trym.prog W .any base t v := hval0
  have hW' := hW
  obtain ⟨p, q, hA0, hV, rfl, hfz, hnd⟩ := hW
  have hA : DataW.TrodAll enc Trym.prog W 0 (fun _ => true) true Trym.f3.params.toList args.toList ds p := hA0
  rw [Trym.params3] at hA hval
  obtain ⟨v0, vs0, d0, ds0, p0, q0, hargs, rfl, rfl, h0, r0⟩ := trodAll_cons hA
  obtain ⟨rfl, rfl, rfl⟩ := trodAll_nil r0
  obtain rfl : args = #[v0] := by cases args; simp_all
  obtain ⟨rfl, rfl⟩ := trodVars_none hV
  obtain ⟨a0, rfl, rfl, rfl, w0⟩ := open_string Trym.underlying9 (hval 0 9 v0 rfl rfl) h0
  clear hA0 hval0
  simp only [List.append_nil] at hW'
  refine (walk a0 w0 W).mono fun e W' ⟨he, hg⟩ => ?_
  subst he
  exact ⟨_, rfl, post_of_same (pa := []) (pv := []) hW' (fun _ _ _ => (trodAll_cons_mk (shut_bool Trym.underlying4 _) trodAll_mk0)) (fun sp _ => (trodAll_cons_mk (shut_string Trym.underlying9 w0) trodAll_mk0)) (fun _ _ => rfl) rfl
    (hg.frame _) hg.2.1 (ok_one (by kernel_rfl) rfl (okWide_bool_mk Trym.underlying4 _))⟩

theorem over : Rows.fnIsTokenIsVisibleASCIIWithoutDelimitersRow.holds Trym.pinned (OpenSpec.ofChange Rows.fnIsTokenIsVisibleASCIIWithoutDelimitersSpec) :=
  OpenClaim.holds_of_wide 3 Trym.f3 rfl rfl rfl rfl rfl rfl rfl ⟨rfl, rfl, rfl, rfl, rfl⟩ rfl rfl rfl rfl rfl (by kernel_rfl) Trym.func3 (by kernel_rfl)
    (of_decide_eq_true (by kernel_rfl)) (by unfold Func.isWrapper; first | (rw [if_pos (by decide +kernel)]; kernel_rfl) | (rw [if_neg (by decide +kernel)]; exact ⟨rfl, rfl⟩))
    (fun os started H enc _ => lifted os started H enc)

/-- ████ THE STATEMENT ████ -/
theorem proved : Rows.FnIsTokenIsVisibleASCIIWithoutDelimitersSaid :=
  over
#print axioms proved
end Go.Proofs.Qxb6602811aMods.fnIsTokenIsVisibleASCIIWithoutDelimiters
