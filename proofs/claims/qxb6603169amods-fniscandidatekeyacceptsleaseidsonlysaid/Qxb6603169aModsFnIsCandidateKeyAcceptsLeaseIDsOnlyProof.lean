/-
  A PROOF OF 'Rows.FnIsCandidateKeyAcceptsLeaseIDsOnlySaid': the frame by the guide's program (proof-skeleton.mjs), its last step turned from 'Grown' to 'Below' ('[]byte(s)' lays a mark behind its row, which 'Grown' does not allow); the walk typed here and in Qxb6603169aModsKeyWalks.
-/
import Derived.Test.Qxb6603169aModsRows
import Derived.WalkKit
import Derived.ProofKit
import Derived.OpenShut
import Derived.ShutString
import Derived.Below
import Derived.Test.Qxb6603169aModsKeyWalks
namespace Go.Proofs.Qxb6603169aMods.fnIsCandidateKeyAcceptsLeaseIDsOnly
open Go.ChangeShapes Go.WideShapes Go.ChangeAt Go.RowKit
open Go.ChangeMaps (open_string shut_string)
open Go.Proofs.Qxb6603169aMods.keyWalks
set_option linter.unusedVariables false      -- a walk need not use every 'w<i>' (that an integer argument fits its kind)

theorem own : ownKnob Trym.prog.godebug = none := by kernel_rfl

theorem bytes_no (a : ByteArray) (v : Int) (t : ByteArray) (w : World) (h1 : a.size ≤ maxLen) (h2 : t.size ≤ maxLen) (h : ¬ a.size + t.size ≤ 1048576) :
    Calls Trym.prog 7 #[.string a, .int .u64 v, .string t] w fun e w' => e = .returned (.bool false) ∧ w' = w := by
  rw [← decide_eq_false h]; exact bytes_any a v t w h1 h2
theorem bytes_yes (a : ByteArray) (v : Int) (t : ByteArray) (w : World) (h1 : a.size ≤ maxLen) (h2 : t.size ≤ maxLen) (h : a.size + t.size ≤ 1048576) :
    Calls Trym.prog 7 #[.string a, .int .u64 v, .string t] w fun e w' => e = .returned (.bool true) ∧ w' = w := by
  rw [← decide_eq_true h]; exact bytes_any a v t w h1 h2

theorem walk_out (a0 : ByteArray) (a1 : Int) (a2 : ByteArray) (w0 : a0.size ≤ maxLen) (w2 : a2.size ≤ maxLen) (w : World) (h : ¬ (a0.size ≤ 262144 ∧ a2.size ≤ 262144)) :
    Calls Trym.prog 3 #[.string a0, .int .u64 a1, .string a2] w fun e w' => e = .returned (.bool true) ∧ Below w.heap.size w w' := by
  by_cases hb : a0.size + a2.size ≤ 1048576
  · by_cases c1 : a0.size ≤ 262144
    · have c2 : ¬ a2.size ≤ 262144 := fun c2 => h ⟨c1, c2⟩
      go_enter Trym.func3, Trym.ntmps3
      go_wp2_with (go_at_call 7; refine (bytes_yes _ _ _ _ w0 w2 hb).mono ?_; rintro e w' ⟨rfl, rfl⟩)
      go_ret
      exact ⟨rfl, Below.refl _ _⟩
    · go_enter Trym.func3, Trym.ntmps3
      go_wp2_with (go_at_call 7; refine (bytes_yes _ _ _ _ w0 w2 hb).mono ?_; rintro e w' ⟨rfl, rfl⟩)
      go_ret
      exact ⟨rfl, Below.refl _ _⟩
  · go_enter Trym.func3, Trym.ntmps3
    go_wp2_with (go_at_call 7; refine (bytes_no _ _ _ _ w0 w2 hb).mono ?_; rintro e w' ⟨rfl, rfl⟩)
    go_ret
    exact ⟨rfl, Below.refl _ _⟩

theorem walk_in (a0 : ByteArray) (n : Nat) (a2 : ByteArray) (w0 : a0.size ≤ maxLen) (w2 : a2.size ≤ maxLen) (w : World) (hn : n ≤ 18446744073709551615) (h1 : a0.size ≤ 262144) (h2 : a2.size ≤ 262144) :
    Calls Trym.prog 3 #[.string a0, .int .u64 n, .string a2] w fun e w' => e = .returned (.bool true) ∧ Below w.heap.size w w' := by
  go_enter Trym.func3, Trym.ntmps3
  go_wp2_with (go_at_call 7; refine (bytes_yes _ _ _ _ w0 w2 (by omega)).mono ?_; rintro e w' ⟨rfl, hw⟩; obtain rfl : w = w' := hw.symm)
  refine (low_any n w hn).mono ?_
  rintro e wa ⟨h, rfl, hx, hsz, hba⟩
  have HX : Hid (hexS h.data.toList = true) := hx
  clear hx
  go_wp2_with fail
  refine (cand_is (a0 ++ h) a0 h true wa rfl (by rw [ByteArray.size_append]; omega) HX.out).mono ?_
  rintro e w' ⟨rfl, hw'⟩
  obtain rfl : wa = w' := hw'.symm
  go_wp2_with fail
  refine (cand_is a0 a0 ByteArray.empty false wa (by simp) (by omega) hexS_empty).mono ?_
  rintro e w' ⟨rfl, hw'⟩
  obtain rfl : wa = w' := hw'.symm
  go_wp2_with fail
  refine (cand_is (a0 ++ h ++ { data := #[47] } ++ a2) a0 (h ++ { data := #[47] } ++ a2) false wa (by simp only [ByteArray.append_assoc]) (by rw [ByteArray.size_append, ByteArray.size_append, ByteArray.size_append]; have : (ByteArray.mk #[47]).size = 1 := rfl; omega) (hexS_slash h a2)).mono ?_
  rintro e w' ⟨rfl, hw'⟩
  obtain rfl : wa = w' := hw'.symm
  go_wp2_with fail
  refine (up_any h wa hsz).mono ?_
  rintro e wb ⟨rfl, hbb⟩
  have hbel : Below w.heap.size w wb := hba.trans (hbb.mono hba.size)
  have hus := upS_size h
  have hul : (upS h).size ≤ 16 := by omega
  clear hus hba hbb
  by_cases hne : upS h = h
  · have ht : ((upS h).toList == h.toList) = true := by rw [hne]; simp
    clear hne
    go_wp2_with fail
    go_ret
    exact ⟨rfl, hbel⟩
  · have HF : Hid (hexS (upS h).data.toList = false) := hexS_up hne
    have ht : ((upS h).toList == h.toList) = false := by
      rw [beq_eq_false_iff_ne, toList_data, toList_data]
      exact fun e => hne (ByteArray.ext (Array.toList_inj.1 e))
    clear hne
    go_wp2_with fail
    refine (cand_is (a0 ++ upS h) a0 (upS h) false wb rfl (by rw [ByteArray.size_append]; omega) HF.out).mono ?_
    rintro e w' ⟨rfl, hw'⟩
    obtain rfl : wb = w' := hw'.symm
    go_wp2_with fail
    go_ret
    exact ⟨rfl, hbel⟩

theorem walk (a0 : ByteArray) (a1 : Int) (a2 : ByteArray) (w0 : a0.size ≤ maxLen) (w1 : (Lit.int .u64 a1).wf = true) (w2 : a2.size ≤ maxLen) (w : World) :
    Calls Trym.prog 3 #[.string a0, .int .u64 a1, .string a2] w fun e w' => e = .returned (.bool true) ∧ Below w.heap.size w w' := by
  have hb := bounds_u64 w1
  obtain ⟨n, rfl⟩ : ∃ n : Nat, a1 = (n : Int) := ⟨a1.toNat, by omega⟩
  by_cases h : a0.size ≤ 262144 ∧ a2.size ≤ 262144
  · exact walk_in a0 n a2 w0 w2 w (by omega) h.1 h.2
  · exact walk_out a0 n a2 w0 w2 w h

/-! ### THE ROW's STEP: WRITTEN OUT: LEAVE IT -/
set_option maxRecDepth 100000 in
theorem lifted (os : Os) (started : os.Started) (H : Type) (enc : TypeId × Value → H) :
    ReturnsInHanded {} Trym.checked os 3 .any (Rows.fnIsCandidateKeyAcceptsLeaseIDsOnlySpec.pre6 enc Trym.prog Trym.f3 Rows.fnIsCandidateKeyAcceptsLeaseIDsOnlyRow.domain false) (Rows.fnIsCandidateKeyAcceptsLeaseIDsOnlySpec.post enc Trym.prog Trym.f3 false true false false) := by
  refine returnsInHanded_of_change (C := Trym.checked) own started (by kernel_rfl) Trym.func3
    (ChangeSpec.witness6 (enc := enc) (C := Trym.checked) false ⟨#[], #[.string ByteArray.empty, .int .u64 0, .string ByteArray.empty], []⟩ 8 (by kernel_rfl) (by kernel_rfl) (by kernel_rfl) (by kernel_rfl)) ?_
  intro W base args ds gs before hval0 hW hcnd _
  have hval : ∀ (j : Nat) t v, Trym.f3.params[j]? = some t → args[j]? = some v → Value.okWide Trym.prog W .any base t v := hval0
  have hW' := hW
  obtain ⟨p, q, hA0, hV, rfl, hfz, hnd⟩ := hW
  have hA : DataW.TrodAll enc Trym.prog W 0 (fun _ => true) true Trym.f3.params.toList args.toList ds p := hA0
  rw [Trym.params3] at hA hval
  obtain ⟨v0, vs0, d0, ds0, p0, q0, hargs, rfl, rfl, h0, r0⟩ := trodAll_cons hA
  obtain ⟨v1, vs1, d1, ds1, p1, q1, rfl, rfl, rfl, h1, r1⟩ := trodAll_cons r0
  obtain ⟨v2, vs2, d2, ds2, p2, q2, rfl, rfl, rfl, h2, r2⟩ := trodAll_cons r1
  obtain ⟨rfl, rfl, rfl⟩ := trodAll_nil r2
  obtain rfl : args = #[v0, v1, v2] := by cases args; simp_all
  obtain ⟨rfl, rfl⟩ := trodVars_none hV
  obtain ⟨a0, rfl, rfl, rfl, w0⟩ := open_string Trym.underlying9 (hval 0 9 v0 rfl rfl) h0
  obtain ⟨a1, rfl, rfl, rfl, w1⟩ := open_int Trym.underlying22 (hval 1 22 v1 rfl rfl) h1
  obtain ⟨a2, rfl, rfl, rfl, w2⟩ := open_string Trym.underlying9 (hval 2 9 v2 rfl rfl) h2
  clear hA0 hval0
  simp only [List.append_nil] at hW'
  refine (walk a0 a1 a2 w0 w1 w2 W).mono fun e W' ⟨he, hg⟩ => ?_
  subst he
  exact ⟨_, rfl, _, _, _, [], _, [], hW', trodAll_mk1 (shut_bool Trym.underlying4 _), (trodAll_cons_mk (shut_string Trym.underlying9 w0) (trodAll_cons_mk (shut_int Trym.underlying22 w1) (trodAll_cons_mk (shut_string Trym.underlying9 w2) trodAll_mk0))), rfl, hg.frame _, fun h => by cases h⟩

theorem over : Rows.fnIsCandidateKeyAcceptsLeaseIDsOnlyRow.holds Trym.pinned (OpenSpec.ofChange Rows.fnIsCandidateKeyAcceptsLeaseIDsOnlySpec) :=
  OpenClaim.holds_of_wide 3 Trym.f3 rfl rfl rfl rfl rfl rfl rfl ⟨rfl, rfl, rfl, rfl, rfl⟩ rfl rfl rfl rfl rfl (by kernel_rfl) Trym.func3 (by kernel_rfl)
    (of_decide_eq_true (by kernel_rfl)) (by unfold Func.isWrapper; first | (rw [if_pos (by decide +kernel)]; kernel_rfl) | (rw [if_neg (by decide +kernel)]; exact ⟨rfl, rfl⟩))
    (fun os started H enc _ => lifted os started H enc)

/-- ████ THE STATEMENT ████ -/
theorem proved : Rows.FnIsCandidateKeyAcceptsLeaseIDsOnlySaid :=
  over
end Go.Proofs.Qxb6603169aMods.fnIsCandidateKeyAcceptsLeaseIDsOnly
