/-
  A PROOF OF 'Rows.FnEpochOfMatchesLastStartBelowSaid': the frame by the guide's program (proof-skeleton.mjs); the walk and its lemmas typed here and in Qxb6603169aModsEpochWalks.
-/
import Derived.Test.Qxb6603169aModsRows
import Derived.WalkKit
import Derived.ProofKit
import Derived.OpenShut
import Derived.ShutString
import Derived.ChangeOld
import Derived.Below
import Derived.Test.Qxb6603169aModsEpochWalks
namespace Go.Proofs.Qxb6603169aMods.fnEpochOfMatchesLastStartBelow
open Go.ChangeShapes Go.WideShapes Go.ChangeAt Go.RowKit
open Go.ChangeMaps (open_string shut_string)
open Go.Proofs.Qxb6603169aMods.epochWalks
set_option linter.unusedVariables false

theorem own : ownKnob Trym.prog.godebug = none := by kernel_rfl
theorem laidOut : laidOutB Trym.prog = true := by kernel_rfl

/-- WHAT THE WALK IS TOLD OF A SLICE OF INTEGERS THAT CAME IN: it is nil; or it leads to a row of 'cap' cells, the numbers 'zs' (the first 'len' are its elements, the rest its spare room), each fitting its kind. -/
def IsRow (k : IntKind) (w : World) (a : Option Addr) (len cap : Nat) (zs : List Int) : Prop :=
  (a = none ∧ len = 0 ∧ cap = 0 ∧ zs = []) ∨
  ∃ x, a = some x ∧ len ≤ cap ∧ cap ≤ maxLen ∧ zs.length = cap ∧ (∀ i, i < zs.length → w.cell? (x.add i) = some (.int k (zs.getD i 0))) ∧ ∀ n ∈ zs, (Lit.int k n).wf = true

/-- What a copy leaves: nil, or a row at the head of a block, its cells the first 'n' numbers of 'zs'. -/
def Row (w : World) (r : Option Addr) (n : Nat) (zs : List Int) : Prop :=
  (r = none ∧ n = 0) ∨ ∃ b, r = some ⟨b, 0, none⟩ ∧ b < w.heap.size ∧ ∀ i, i < n → w.cell? ⟨b, i, none⟩ = some (.int .i64 (zs.getD i 0))

theorem Row.below {w w' : World} {r : Option Addr} {n : Nat} {zs : List Int} (h : Row w r n zs) (hb : Below w.heap.size w w') : Row w' r n zs := by
  rcases h with h | ⟨b, hr, hlt, hc⟩
  · exact .inl h
  · exact .inr ⟨b, hr, Nat.lt_of_lt_of_le hlt hb.size, fun i hi => by rw [hb.cell (p := ⟨b, i, none⟩) hlt]; exact hc i hi⟩

theorem IsRow.below {w w' : World} {a : Option Addr} {n cap : Nat} {zs : List Int} (h : IsRow .i64 w a n cap zs) (hb : Below w.heap.size w w') : IsRow .i64 w' a n cap zs := by
  rcases h with h | ⟨x, h1, h2, h3, h4, hc, h5⟩
  · exact .inl h
  · exact .inr ⟨x, h1, h2, h3, h4, fun i hi => by rw [hb.cell (World.block_lt_of_cell? w _ (hc i hi))]; exact hc i hi, h5⟩

theorem copy_row (a : Option Addr) (n cap : Nat) (zs : List Int) (w : World) (h : IsRow .i64 w a n cap zs) (hn : n ≤ 65536) :
    Calls Trym.prog 13 #[.slice a n cap] w fun e w' => ∃ r, e = .returned (.slice r n n) ∧ Below w.heap.size w w' ∧ Row w' r n zs := by
  rcases h with ⟨rfl, rfl, rfl, rfl⟩ | ⟨x, rfl, h2, h3, h4, hc, h5⟩
  · refine (copy_nil w 0).mono ?_
    rintro e w' ⟨rfl, rfl⟩
    exact ⟨none, rfl, Below.refl _ _, .inl ⟨rfl, rfl⟩⟩
  · refine (copy_some x n cap zs w (by omega) hn hc).mono ?_
    rintro e w' ⟨rfl, hb, hlt, hcell⟩
    exact ⟨_, rfl, hb, .inr ⟨_, rfl, hlt, hcell⟩⟩

theorem zz_any (ep : Int) (r1 r2 : Option Addr) (n : Nat) (ai si c : Int) (E S : List Int) (w : World) (hn : n ≤ 65536) (h1 : Row w r1 n E) (h2 : Row w r2 n S) :
    Calls Trym.prog 14 #[.int .i64 ep, .slice r1 n n, .slice r2 n n, .int .u64 ai, .int .i64 si, .int .i64 c] w fun e w' => e = .returned (.int .i64 (ans ep E S n si c)) ∧ Below w.heap.size w w' := by
  rcases h1 with ⟨rfl, rfl⟩ | ⟨b, rfl, _, hc⟩
  · exact zz_nil ep r2 0 ai si c E S w
  · refine zz_some ep b n r2 n n ai si c E S w hn hc (fun hp => ?_)
    rcases h2 with ⟨_, e⟩ | ⟨b2, hr, _, hc2⟩
    · omega
    · exact ⟨b2, hr, hc2⟩

theorem bytes_no (a0 : Int) (a1 : Option Addr) (len1 cap1 : Nat) (a2 : Option Addr) (len2 cap2 : Nat) (a3 a4 a5 : Int) (w : World) (h1 : len1 ≤ maxLen) (h2 : len2 ≤ maxLen) (h : ¬ len1 + len2 ≤ 1048576) :
    Calls Trym.prog 12 #[.int .i64 a0, .slice a1 len1 cap1, .slice a2 len2 cap2, .int .u64 a3, .int .i64 a4, .int .i64 a5] w fun e w' => e = .returned (.bool false) ∧ w' = w := by
  rw [← decide_eq_false h]; exact bytes_any a0 a1 len1 cap1 a2 len2 cap2 a3 a4 a5 w h1 h2

theorem bytes_yes (a0 : Int) (a1 : Option Addr) (len1 cap1 : Nat) (a2 : Option Addr) (len2 cap2 : Nat) (a3 a4 a5 : Int) (w : World) (h1 : len1 ≤ maxLen) (h2 : len2 ≤ maxLen) (h : len1 + len2 ≤ 1048576) :
    Calls Trym.prog 12 #[.int .i64 a0, .slice a1 len1 cap1, .slice a2 len2 cap2, .int .u64 a3, .int .i64 a4, .int .i64 a5] w fun e w' => e = .returned (.bool true) ∧ w' = w := by
  rw [← decide_eq_true h]; exact bytes_any a0 a1 len1 cap1 a2 len2 cap2 a3 a4 a5 w h1 h2

theorem isRow_len {k : IntKind} {w : World} {a : Option Addr} {n cap : Nat} {zs : List Int} (h : IsRow k w a n cap zs) : n ≤ maxLen := by
  rcases h with ⟨_, rfl, _⟩ | ⟨x, h1, h2, h3, _⟩
  · exact Nat.zero_le _
  · omega

/-! ### The ways that return ahead of the copies -/
theorem walk_out (a0 : Int) (a1 : Option Addr) (len1 cap1 : Nat) (a2 : Option Addr) (len2 cap2 : Nat) (a3 : Int) (a4 : Int) (a5 : Int) (w : World) (h1 : len1 ≤ maxLen) (h2 : len2 ≤ maxLen) (h : ¬ (len1 ≤ 65536 ∧ len2 ≤ 65536 ∧ len1 = len2)) :
    Calls Trym.prog 5 #[.int .i64 a0, .slice a1 len1 cap1, .slice a2 len2 cap2, .int .u64 a3, .int .i64 a4, .int .i64 a5] w fun e w' => e = .returned (.bool true) ∧ Below w.heap.size w w' := by
  by_cases hb : len1 + len2 ≤ 1048576
  · by_cases c1 : len1 ≤ 65536
    · by_cases c2 : len2 ≤ 65536
      · have c3 : (((len1 : Int) != (len2 : Int))) = true := by simp; omega
        go_enter Trym.func5, Trym.ntmps5
        go_wp2_with (go_at_call 12; refine (bytes_yes _ _ _ _ _ _ _ _ _ _ _ h1 h2 hb).mono ?_; rintro e w' ⟨rfl, rfl⟩)
        go_ret
        exact ⟨rfl, Below.refl _ _⟩
      · go_enter Trym.func5, Trym.ntmps5
        go_wp2_with (go_at_call 12; refine (bytes_yes _ _ _ _ _ _ _ _ _ _ _ h1 h2 hb).mono ?_; rintro e w' ⟨rfl, rfl⟩)
        go_ret
        exact ⟨rfl, Below.refl _ _⟩
    · go_enter Trym.func5, Trym.ntmps5
      go_wp2_with (go_at_call 12; refine (bytes_yes _ _ _ _ _ _ _ _ _ _ _ h1 h2 hb).mono ?_; rintro e w' ⟨rfl, rfl⟩)
      go_ret
      exact ⟨rfl, Below.refl _ _⟩
  · go_enter Trym.func5, Trym.ntmps5
    go_wp2_with (go_at_call 12; refine (bytes_no _ _ _ _ _ _ _ _ _ _ _ h1 h2 hb).mono ?_; rintro e w' ⟨rfl, rfl⟩)
    go_ret
    exact ⟨rfl, Below.refl _ _⟩

/-! ### The way through the copies, the loop and the call -/
theorem walk_in (a0 : Int) (a1 : Option Addr) (n cap1 : Nat) (z1 : List Int) (a2 : Option Addr) (cap2 : Nat) (z2 : List Int) (a3 : Int) (a4 : Int) (a5 : Int) (w : World) (hn : n ≤ 65536) (w1 : IsRow .i64 w a1 n cap1 z1) (w2 : IsRow .i64 w a2 n cap2 z2) :
    Calls Trym.prog 5 #[.int .i64 a0, .slice a1 n cap1, .slice a2 n cap2, .int .u64 a3, .int .i64 a4, .int .i64 a5] w fun e w' => e = .returned (.bool true) ∧ Below w.heap.size w w' := by
  have h1 := isRow_len w1
  go_enter Trym.func5, Trym.ntmps5
  go_wp2_with (go_at_call 12; refine (bytes_yes _ _ _ _ _ _ _ _ _ _ _ h1 h1 (by omega)).mono ?_; rintro e w' ⟨rfl, hw⟩; obtain rfl : w = w' := hw.symm)
  refine (copy_row a1 n cap1 z1 w w1 hn).mono ?_
  rintro e wa ⟨r1, rfl, hba, hra⟩
  have w2' := w2.below hba
  clear w1 w2
  go_wp2_with fail
  refine (copy_row a2 n cap2 z2 wa w2' hn).mono ?_
  rintro e wb ⟨r2, rfl, hbb, hrb⟩
  have hra' := hra.below hbb
  have hbel : Below w.heap.size w wb := hba.trans (hbb.mono hba.size)
  clear hra w2' hba hbb
  go_wp2_with fail
  go_loop [13, 14] (fun t i => ∃ k : Nat, k ≤ n ∧ i = .int .i64 k ∧ t = .int .i64 (want z1 z2 a5 k)) (fun _ i => n - (intOf i).toNat)
  case atStart => exact ⟨0, Nat.zero_le _, rfl, rfl⟩
  case round =>
    obtain ⟨k, hk, rfl, rfl⟩ := hrel
    by_cases hlt : k < n
    · rcases hra' with ⟨_, e⟩ | ⟨b1, rfl, _, hc1⟩
      · omega
      rcases hrb with ⟨_, e⟩ | ⟨b2, rfl, _, hc2⟩
      · omega
      have hk1 := hc1 k hlt
      have hk2 := hc2 k hlt
      clear hc1 hc2 hbel
      go_wp2
      · have hq : z2[k]?.getD 0 < a5 := by assumption
        go_round
        case rel => exact ⟨k + 1, by omega, by go_num, by rw [want_hit hq]⟩
        case measure => simp [intOf]; omega
      · have hq : a5 ≤ z2[k]?.getD 0 := by assumption
        go_round
        case rel => exact ⟨k + 1, by omega, by go_num, by rw [want_miss hq]⟩
        case measure => simp [intOf]; omega
    · obtain rfl : k = n := by omega
      by_cases hs : 0 < a4 ∧ a4 < a5
      · obtain ⟨hs1, hs2⟩ := hs
        go_wp2_with fail
        refine (zz_any a0 r1 r2 k a3 a4 a5 z1 z2 _ hn hra' hrb).mono ?_
        rintro e w' ⟨rfl, hbz⟩
        have hans : ans a0 z1 z2 k a4 a5 = a0 := if_pos ⟨hs1, hs2⟩
        rw [hans]
        go_wp2
        go_ret
        exact ⟨ret_bool (by simp), hbel.trans (hbz.mono hbel.size)⟩
      · by_cases hs1 : 0 < a4
        · have hs2 : ¬ a4 < a5 := fun h => hs ⟨hs1, h⟩
          go_wp2_with fail
          refine (zz_any a0 r1 r2 k a3 a4 a5 z1 z2 _ hn hra' hrb).mono ?_
          rintro e w' ⟨rfl, hbz⟩
          have hans : ans a0 z1 z2 k a4 a5 = want z1 z2 a5 k := if_neg hs
          rw [hans]
          go_wp2
          go_ret
          exact ⟨ret_bool (by simp), hbel.trans (hbz.mono hbel.size)⟩
        · go_wp2_with fail
          refine (zz_any a0 r1 r2 k a3 a4 a5 z1 z2 _ hn hra' hrb).mono ?_
          rintro e w' ⟨rfl, hbz⟩
          have hans : ans a0 z1 z2 k a4 a5 = want z1 z2 a5 k := if_neg hs
          rw [hans]
          go_wp2
          go_ret
          exact ⟨ret_bool (by simp), hbel.trans (hbz.mono hbel.size)⟩

theorem walk (a0 : Int) (a1 : Option Addr) (len1 cap1 : Nat) (z1 : List Int) (a2 : Option Addr) (len2 cap2 : Nat) (z2 : List Int) (a3 : Int) (a4 : Int) (a5 : Int) (w : World) (w0 : (Lit.int .i64 a0).wf = true) (w1 : IsRow .i64 w a1 len1 cap1 z1) (w2 : IsRow .i64 w a2 len2 cap2 z2) (w3 : (Lit.int .u64 a3).wf = true) (w4 : (Lit.int .i64 a4).wf = true) (w5 : (Lit.int .i64 a5).wf = true) :
    Calls Trym.prog 5 #[.int .i64 a0, .slice a1 len1 cap1, .slice a2 len2 cap2, .int .u64 a3, .int .i64 a4, .int .i64 a5] w fun e w' => e = .returned (.bool true) ∧ Below w.heap.size w w' := by
  by_cases h : len1 ≤ 65536 ∧ len2 ≤ 65536 ∧ len1 = len2
  · obtain ⟨h1, _, rfl⟩ := h
    exact walk_in a0 a1 len1 cap1 z1 a2 cap2 z2 a3 a4 a5 w h1 w1 w2
  · exact walk_out a0 a1 len1 cap1 a2 len2 cap2 a3 a4 a5 w (isRow_len w1) (isRow_len w2) h

/-! ### THE ROW's STEP: WRITTEN OUT: LEAVE IT -/
set_option maxRecDepth 100000 in
theorem lifted (os : Os) (started : os.Started) (H : Type) (enc : TypeId × Value → H) :
    ReturnsInHanded {} Trym.checked os 5 .any (Rows.fnEpochOfMatchesLastStartBelowSpec.pre6 enc Trym.prog Trym.f5 Rows.fnEpochOfMatchesLastStartBelowRow.domain false) (Rows.fnEpochOfMatchesLastStartBelowSpec.post enc Trym.prog Trym.f5 false true false false) := by
  refine returnsInHanded_of_change (C := Trym.checked) own started (by kernel_rfl) Trym.func5
    (ChangeSpec.witness6 (enc := enc) (C := Trym.checked) false ⟨#[], #[.int .i64 0, .slice none 0 0, .slice none 0 0, .int .u64 0, .int .i64 0, .int .i64 0], []⟩ 8 (by kernel_rfl) (by kernel_rfl) (by kernel_rfl) (by kernel_rfl)) ?_
  intro W base args ds gs before hval0 hW hcnd _
  have hval : ∀ (j : Nat) t v, Trym.f5.params[j]? = some t → args[j]? = some v → Value.okWide Trym.prog W .any base t v := hval0
  have hW' := hW
  obtain ⟨p, q, hA0, hV, rfl, hfz, hnd⟩ := hW
  have hA : DataW.TrodAll enc Trym.prog W 0 (fun _ => true) true Trym.f5.params.toList args.toList ds p := hA0
  rw [Trym.params5] at hA hval
  obtain ⟨v0, vs0, d0, ds0, p0, q0, hargs, rfl, rfl, h0, r0⟩ := trodAll_cons hA
  obtain ⟨v1, vs1, d1, ds1, p1, q1, rfl, rfl, rfl, h1, r1⟩ := trodAll_cons r0
  obtain ⟨v2, vs2, d2, ds2, p2, q2, rfl, rfl, rfl, h2, r2⟩ := trodAll_cons r1
  obtain ⟨v3, vs3, d3, ds3, p3, q3, rfl, rfl, rfl, h3, r3⟩ := trodAll_cons r2
  obtain ⟨v4, vs4, d4, ds4, p4, q4, rfl, rfl, rfl, h4, r4⟩ := trodAll_cons r3
  obtain ⟨v5, vs5, d5, ds5, p5, q5, rfl, rfl, rfl, h5, r5⟩ := trodAll_cons r4
  obtain ⟨rfl, rfl, rfl⟩ := trodAll_nil r5
  obtain rfl : args = #[v0, v1, v2, v3, v4, v5] := by cases args; simp_all
  obtain ⟨rfl, rfl⟩ := trodVars_none hV
  obtain ⟨a0, rfl, rfl, rfl, w0⟩ := open_int Trym.underlying2 (hval 0 2 v0 rfl rfl) h0
  obtain ⟨a1, len1, cap1, rfl⟩ := okWide_slice Trym.underlying28 (hval 1 28 v1 rfl rfl)
  have k1 := h1
  have lt1 : ∀ x ∈ p1, x.block < W.heap.size := by obtain ⟨m, hm⟩ := k1; exact DataW.trod_lt m _ _ _ hm
  obtain ⟨z1, w1⟩ : ∃ zs, IsRow .i64 W a1 len1 cap1 zs := by
    obtain ⟨fuel, hf⟩ := h1
    rcases open_ints Trym.underlying28 Trym.underlying2 (by kernel_rfl) hf with ⟨hcs, _⟩ | ⟨x, l, c, zs, hcs, _, hl, hm, hz, _, hcell, hwz⟩
    · simp [Value.cells] at hcs
      obtain ⟨rfl, rfl, rfl⟩ := hcs
      exact ⟨[], .inl ⟨rfl, rfl, rfl, rfl⟩⟩
    · simp [Value.cells] at hcs
      obtain ⟨rfl, rfl, rfl⟩ := hcs
      exact ⟨zs, .inr ⟨_, rfl, hl, hm, by simpa using hz, hcell, hwz⟩⟩
  obtain ⟨a2, len2, cap2, rfl⟩ := okWide_slice Trym.underlying28 (hval 2 28 v2 rfl rfl)
  have k2 := h2
  have lt2 : ∀ x ∈ p2, x.block < W.heap.size := by obtain ⟨m, hm⟩ := k2; exact DataW.trod_lt m _ _ _ hm
  obtain ⟨z2, w2⟩ : ∃ zs, IsRow .i64 W a2 len2 cap2 zs := by
    obtain ⟨fuel, hf⟩ := h2
    rcases open_ints Trym.underlying28 Trym.underlying2 (by kernel_rfl) hf with ⟨hcs, _⟩ | ⟨x, l, c, zs, hcs, _, hl, hm, hz, _, hcell, hwz⟩
    · simp [Value.cells] at hcs
      obtain ⟨rfl, rfl, rfl⟩ := hcs
      exact ⟨[], .inl ⟨rfl, rfl, rfl, rfl⟩⟩
    · simp [Value.cells] at hcs
      obtain ⟨rfl, rfl, rfl⟩ := hcs
      exact ⟨zs, .inr ⟨_, rfl, hl, hm, by simpa using hz, hcell, hwz⟩⟩
  obtain ⟨a3, rfl, rfl, rfl, w3⟩ := open_int Trym.underlying22 (hval 3 22 v3 rfl rfl) h3
  obtain ⟨a4, rfl, rfl, rfl, w4⟩ := open_int Trym.underlying2 (hval 4 2 v4 rfl rfl) h4
  obtain ⟨a5, rfl, rfl, rfl, w5⟩ := open_int Trym.underlying2 (hval 5 2 v5 rfl rfl) h5
  clear hA0 hval0
  refine (walk a0 a1 len1 cap1 z1 a2 len2 cap2 z2 a3 a4 a5 W w0 w1 w2 w3 w4 w5).mono fun e W' ⟨he, bel⟩ => ?_
  subst he
  exact ⟨_, rfl, _, _, _, [], _, [], hW', trodAll_mk1 (shut_bool Trym.underlying4 _), (trodAll_cons_mk (shut_int Trym.underlying2 w0) (trodAll_cons_mk (Below.trod laidOut (by kernel_rfl) (of_decide_eq_true (by kernel_rfl)) k1 bel lt1) (trodAll_cons_mk (Below.trod laidOut (by kernel_rfl) (of_decide_eq_true (by kernel_rfl)) k2 bel lt2) (trodAll_cons_mk (shut_int Trym.underlying22 w3) (trodAll_cons_mk (shut_int Trym.underlying2 w4) (trodAll_cons_mk (shut_int Trym.underlying2 w5) trodAll_mk0)))))), rfl, bel.frame _, fun h => by cases h⟩

theorem over : Rows.fnEpochOfMatchesLastStartBelowRow.holds Trym.pinned (OpenSpec.ofChange Rows.fnEpochOfMatchesLastStartBelowSpec) :=
  OpenClaim.holds_of_wide 5 Trym.f5 rfl rfl rfl rfl rfl rfl rfl ⟨rfl, rfl, rfl, rfl, rfl⟩ rfl rfl rfl rfl rfl (by kernel_rfl) Trym.func5 (by kernel_rfl)
    (of_decide_eq_true (by kernel_rfl)) (by unfold Func.isWrapper; first | (rw [if_pos (by decide +kernel)]; kernel_rfl) | (rw [if_neg (by decide +kernel)]; exact ⟨rfl, rfl⟩))
    (fun os started H enc _ => lifted os started H enc)

/-- ████ THE STATEMENT ████ -/
theorem proved : Rows.FnEpochOfMatchesLastStartBelowSaid := over
end Go.Proofs.Qxb6603169aMods.fnEpochOfMatchesLastStartBelow
