/-
  A PROOF OF 'Rows.FnAppendStringTwoFieldsReadBackSaid': the frame by the guide's program (proof-skeleton.mjs); the walk typed here and in Qxb6603592aModsBufWalks, Qxb6603592aModsReadWalks.
-/
import Derived.Test.Qxb6603592aModsRows
import Derived.WalkKit
import Derived.ProofKit
import Derived.OpenShut
import Derived.ShutString
import Derived.ChangeOld
import Derived.Below
import Derived.Test.Qxb6603592aModsReadWalks
namespace Go.Proofs.Qxb6603592aMods.fnAppendStringTwoFieldsReadBack
open Go.ChangeShapes Go.WideShapes Go.ChangeAt Go.RowKit
open Go.ChangeMaps (open_string shut_string)
open Go.Proofs.Qxb6603592aMods.bufWalks
set_option linter.unusedVariables false

theorem own : ownKnob Trym.prog.godebug = none := by kernel_rfl
theorem laidOut : laidOutB Trym.prog = true := by kernel_rfl

/-- WHAT THE WALK IS TOLD OF A SLICE OF INTEGERS THAT CAME IN: it is nil; or it leads to a row of 'cap' cells, the numbers 'zs' (the first 'len' are its elements, the rest its spare room), each fitting its kind. -/
def IsRow (k : IntKind) (w : World) (a : Option Addr) (len cap : Nat) (zs : List Int) : Prop :=
  (a = none ∧ len = 0 ∧ cap = 0 ∧ zs = []) ∨
  ∃ x, a = some x ∧ len ≤ cap ∧ cap ≤ maxLen ∧ zs.length = cap ∧ (∀ i, i < zs.length → w.cell? (x.add i) = some (.int k (zs.getD i 0))) ∧ ∀ n ∈ zs, (Lit.int k n).wf = true

/-- What the clone leaves: nil, or a row at the head of a block, its cells the first 'n' numbers of 'zs'. -/
def Row (w : World) (r : Option Addr) (n : Nat) (zs : List Int) : Prop :=
  (r = none ∧ n = 0) ∨ ∃ b, r = some ⟨b, 0, none⟩ ∧ b < w.heap.size ∧ ∀ i, i < n → w.cell? ⟨b, i, none⟩ = some (.int .u8 (zs.getD i 0))

theorem Row.below {w w' : World} {r : Option Addr} {n : Nat} {zs : List Int} (h : Row w r n zs) (hb : Below w.heap.size w w') : Row w' r n zs := by
  rcases h with h | ⟨b, hr, hlt, hc⟩
  · exact .inl h
  · exact .inr ⟨b, hr, Nat.lt_of_lt_of_le hlt hb.size, fun i hi => by rw [hb.cell (p := ⟨b, i, none⟩) hlt]; exact hc i hi⟩

theorem isRow_len {k : IntKind} {w : World} {a : Option Addr} {n cap : Nat} {zs : List Int} (h : IsRow k w a n cap zs) : n ≤ maxLen ∧ n ≤ zs.length := by
  rcases h with ⟨_, rfl, _⟩ | ⟨x, h1, h2, h3, h4, _⟩
  · exact ⟨Nat.zero_le _, Nat.zero_le _⟩
  · omega

theorem clone_row (a : Option Addr) (n cap : Nat) (zs : List Int) (w : World) (h : IsRow .u8 w a n cap zs) (hn : n ≤ 1048576) :
    Calls Trym.prog 5 #[.slice a n cap] w fun e w' => ∃ r, e = .returned (.slice r n n) ∧ Below w.heap.size w w' ∧ Row w' r n zs := by
  rcases h with ⟨rfl, rfl, rfl, rfl⟩ | ⟨x, rfl, h2, h3, h4, hc, h5⟩
  · refine (clone_nil w 0).mono ?_
    rintro e w' ⟨rfl, rfl⟩
    exact ⟨none, rfl, Below.refl _ _, .inl ⟨rfl, rfl⟩⟩
  · refine (clone_some x n cap zs w (by omega) hn hc).mono ?_
    rintro e w' ⟨rfl, hb, hlt, hcell⟩
    exact ⟨_, rfl, hb, .inr ⟨_, rfl, hlt, hcell⟩⟩

/-- The bytes that were there, as cells. -/
def olds (zs : List Int) (n : Nat) : List Value := (zs.take n).map (Value.int .u8)
theorem olds_length {zs : List Int} {n : Nat} (h : n ≤ zs.length) : (olds zs n).length = n := by
  unfold olds; rw [List.length_map, List.length_take]; omega
theorem olds_at {zs : List Int} {n j : Nat} (h : n ≤ zs.length) (hj : j < n) : (olds zs n)[j]? = some (.int .u8 (zs.getD j 0)) := by
  unfold olds
  rw [List.getElem?_map, List.getElem?_take, if_pos hj, List.getElem?_eq_getElem (by omega)]
  simp [List.getD, List.getElem?_eq_getElem (show j < zs.length by omega)]

theorem Row.hold {w : World} {r : Option Addr} {n : Nat} {zs : List Int} (h : Row w r n zs) (hz : n ≤ zs.length) : Hold w.heap.size w (.slice r n n) n (olds zs n) := by
  refine .inr ⟨r, rfl, ?_, olds_length hz, ?_⟩
  · rcases h with h | ⟨b, hr, _⟩
    · exact fun _ => h.2
    · intro e; rw [hr] at e; cases e
  · intro b hb j u hj
    have hjn : j < n := by have := (List.getElem?_eq_some_iff.1 hj).1; rwa [olds_length hz] at this
    rw [olds_at hz hjn] at hj
    rcases h with h | ⟨b', hr, _, hc⟩
    · omega
    · rw [hr] at hb
      cases hb
      rw [Addr.add_lit, Nat.zero_add, hc j hjn, ← hj]

theorem own_shape {w : World} {base n : Nat} {v : Value} {xs : List Value} (h : w.ownsRow base 5 1 v n xs) (hn : 0 < n) : ∃ g cap, v = .slice (some ⟨g, 0, none⟩) n cap := by
  rcases h.2 with ⟨_, h0⟩ | ⟨g, cap, _, hv, _⟩
  · omega
  · exact ⟨g, cap, hv⟩

theorem lies_of {w : World} {base g n cap : Nat} {us vs : List Value} {l : List UInt8} (h : w.ownsRow base 5 1 (.slice (some ⟨g, 0, none⟩) n cap) n (us ++ Lib.byteCells l ++ vs)) : Lies w g us.length l := fun j hj => by
  have hl := h.1
  have hb : (Lib.byteCells l).length = l.length := by simp [Lib.byteCells]
  rw [List.length_append, List.length_append, hb] at hl
  rw [h.cellAt _ (by omega), List.append_assoc, List.getElem?_append_right (by omega), Nat.add_sub_cancel_left, List.getElem?_append_left (by omega)]
  simp [Lib.byteCells, List.getElem?_eq_getElem hj]

theorem bytes_is (a : Option Addr) (len cap : Nat) (s t : ByteArray) (w : World) (b : Bool) (h0 : len ≤ maxLen) (h1 : s.size ≤ maxLen) (h2 : t.size ≤ maxLen) (h : decide (len + s.size + t.size ≤ 1048576) = b) :
    Hid (Calls Trym.prog 4 #[.slice a len cap, .string s, .string t] w fun e w' => e = .returned (.bool b) ∧ w' = w) := by
  rw [← h]; exact bytes_any a len cap s t w h0 h1 h2

theorem walk_out (a0 : Option Addr) (len0 cap0 : Nat) (s t : ByteArray) (w : World) (w0 : len0 ≤ maxLen) (w1 : s.size ≤ maxLen) (w2 : t.size ≤ maxLen) (h : ¬ len0 + s.size + t.size ≤ 1048576) :
    Calls Trym.prog 3 #[.slice a0 len0 cap0, .string s, .string t] w fun e w' => e = .returned (.bool true) ∧ Below w.heap.size w w' := by
  have H := bytes_is a0 len0 cap0 s t w false w0 w1 w2 (decide_eq_false h)
  go_enter Trym.func3, Trym.ntmps3
  go_wp2_with (go_at_call 4; refine H.out.mono ?_; rintro e w' ⟨rfl, hw⟩; obtain rfl : w = w' := hw.symm)
  go_ret
  exact ⟨rfl, Below.refl _ _⟩

set_option maxHeartbeats 1000000 in
theorem walk_in (a0 : Option Addr) (n cap0 : Nat) (z0 : List Int) (s t : ByteArray) (w : World) (w0 : IsRow .u8 w a0 n cap0 z0) (w1 : s.size ≤ maxLen) (w2 : t.size ≤ maxLen) (h : n + s.size + t.size ≤ 1048576) :
    Calls Trym.prog 3 #[.slice a0 n cap0, .string s, .string t] w fun e w' => e = .returned (.bool true) ∧ Below w.heap.size w w' := by
  obtain ⟨hm0, hz0⟩ := isRow_len w0
  have H := bytes_is a0 n cap0 s t w true hm0 w1 w2 (decide_eq_true h)
  have HC : Hid (Calls Trym.prog 5 #[.slice a0 n cap0] w fun e w' => ∃ r, e = .returned (.slice r n n) ∧ Below w.heap.size w w' ∧ Row w' r n z0) := clone_row a0 n cap0 z0 w w0 (by omega)
  clear w0
  have hfs := field_length s
  have hft := field_length t
  have hus := Lib.uvarint_length64 (x := s.size) (by omega)
  have hut := Lib.uvarint_length64 (x := t.size) (by omega)
  have hup := Lib.uvarint_pos t.size
  obtain ⟨N1, hN1⟩ : ∃ N1, N1 = n + (field s).length := ⟨_, rfl⟩
  obtain ⟨N2, hN2⟩ : ∃ N2, N2 = N1 + (field t).length := ⟨_, rfl⟩
  have b1 : n ≤ N1 := by omega
  have b2 : N1 < N2 := by omega
  have b3 : N2 ≤ 2097152 := by omega
  have HN1 : Hid (N1 = n + (field s).length) := hN1
  have HN2 : Hid (N2 = N1 + (field t).length) := hN2
  clear hN1 hN2 hfs hft hus hut hup
  go_enter Trym.func3, Trym.ntmps3
  go_wp2_with (go_at_call 4; refine H.out.mono ?_; rintro e w' ⟨rfl, hw⟩; obtain rfl : w = w' := hw.symm)
  refine HC.out.mono ?_
  rintro e wa ⟨r, rfl, hba, hrow⟩
  go_wp2_with fail
  refine (zz_any wa.heap.size n s (by omega) (.slice r n n) (olds z0 n) wa (hrow.hold hz0) (Nat.le_refl _) (by omega)).mono ?_
  rintro e wb ⟨v1, rfl, hown1, hbb⟩
  rw [← HN1.out] at hown1
  go_wp2_with fail
  refine (zz_any wa.heap.size N1 t (by omega) v1 _ wb (.inl hown1) hbb.size (by omega)).mono ?_
  rintro e wc ⟨v2, rfl, hown2, hbc⟩
  rw [← HN2.out] at hown2
  obtain ⟨g, cap, rfl⟩ := own_shape hown2 (by omega)
  have hrow2 := hrow.below (hbb.trans hbc)
  have hbel : Below w.heap.size w wc := hba.trans ((hbb.trans hbc).mono hba.size)
  have hol := olds_length hz0
  have L1 : Lies wc g n (field s) := by have := lies_of hown2; rwa [hol] at this
  have L2 : Lies wc g N1 (field t) := by
    have hz : ((olds z0 n) ++ Lib.byteCells (field s)).length = N1 := by rw [List.length_append, hol, HN1.out]; simp [Lib.byteCells]
    have hx : wc.ownsRow wa.heap.size 5 1 (.slice (some ⟨g, 0, none⟩) N2 cap) N2 ((olds z0 n ++ Lib.byteCells (field s)) ++ Lib.byteCells (field t) ++ []) := by rw [List.append_nil]; exact hown2
    have := lies_of hx
    rwa [hz] at this
  have HO : Hid (∀ k, k < n → wc.cell? ⟨g, k, none⟩ = some (.int .u8 (z0.getD k 0))) := fun k hk => by
    rw [hown2.cellAt k (by omega), List.append_assoc, List.getElem?_append_left (by omega)]
    exact olds_at hz0 hk
  have hgl : g < wc.heap.size := own_lt hown2
  clear hown1 hown2 hba hbb hbc hrow hol H HC
  have HL1 : Hid (Lies wc g n (field s)) := L1
  have HL2 : Hid (Lies wc g N1 (field t)) := L2
  have HR : Hid (Row wc r n z0) := hrow2
  clear L1 L2 hrow2
  go_wp2_with fail
  go_loopw [8] (fun v wr => ∃ k : Nat, k ≤ n ∧ v = .int .i64 k ∧ Below wc.heap.size wc wr) (fun v _ => n - (intOf v).toNat)
  case atStart => exact ⟨0, Nat.zero_le _, rfl, Below.refl _ _⟩
  case round =>
    obtain ⟨k, hk, rfl, hb⟩ := hrel
    by_cases hlt : k < n
    · rcases HR.out with ⟨_, e⟩ | ⟨B, rfl, hB, hcB⟩
      · omega
      have hc1 : wr.cell? ⟨g, k, none⟩ = some (.int .u8 (z0.getD k 0)) := by rw [hb.cell (p := ⟨g, k, none⟩) hgl]; exact HO.out k hlt
      have hc2 : wr.cell? ⟨B, k, none⟩ = some (.int .u8 (z0.getD k 0)) := by rw [hb.cell (p := ⟨B, k, none⟩) hB]; exact hcB k hlt
      clear hcB
      go_wp2
      go_region
      go_wp2
      go_roundw
      case rel => exact ⟨k + 1, by omega, by go_num, hb.drew⟩
      case measure => simp [intOf]; omega
    · obtain rfl : k = n := by omega
      have hr1 := read_field g N2 cap k s wr (by omega) (by omega) (HL1.out.below hb) (by have := HN1.out; omega)
      rw [← HN1.out] at hr1
      have HR1 : Hid (Calls Trym.prog 7 #[.slice (some ⟨g, 0, none⟩) N2 cap, .int .i64 k, .string s] wr fun e w' => e = .returned (.tuple #[.int .i64 (N1 : Int), .bool true]) ∧ Below wr.heap.size wr w') := hr1
      clear hr1
      go_wp2_with fail
      refine HR1.out.mono ?_
      rintro e wd ⟨rfl, hbd⟩
      have hbd' : Below wc.heap.size wc wd := hb.trans (hbd.mono hb.size)
      have hr2 := read_field g N2 cap N1 t wd (by omega) (by omega) (HL2.out.below hbd') (by have := HN2.out; omega)
      rw [← HN2.out] at hr2
      have HR2 : Hid (Calls Trym.prog 7 #[.slice (some ⟨g, 0, none⟩) N2 cap, .int .i64 N1, .string t] wd fun e w' => e = .returned (.tuple #[.int .i64 (N2 : Int), .bool true]) ∧ Below wd.heap.size wd w') := hr2
      clear hr2
      go_wp2_with fail
      refine HR2.out.mono ?_
      rintro e we ⟨rfl, hbe⟩
      have hbe' : Below w.heap.size w we := hbel.trans ((hbd'.trans (hbe.mono hbd'.size)).mono hbel.size)
      go_wp2_with fail
      go_ret
      exact ⟨ret_bool (by simp), hbe'⟩

theorem walk (a0 : Option Addr) (len0 cap0 : Nat) (z0 : List Int) (a1 : ByteArray) (a2 : ByteArray) (w : World) (w0 : IsRow .u8 w a0 len0 cap0 z0) (w1 : a1.size ≤ maxLen) (w2 : a2.size ≤ maxLen) :
    Calls Trym.prog 3 #[.slice a0 len0 cap0, .string a1, .string a2] w fun e w' => e = .returned (.bool true) ∧ Below w.heap.size w w' := by
  by_cases h : len0 + a1.size + a2.size ≤ 1048576
  · exact walk_in a0 len0 cap0 z0 a1 a2 w w0 w1 w2 h
  · exact walk_out a0 len0 cap0 a1 a2 w (isRow_len w0).1 w1 w2 h

/-! ### THE ROW's STEP: WRITTEN OUT: LEAVE IT -/
set_option maxRecDepth 100000 in
theorem lifted (os : Os) (started : os.Started) (H : Type) (enc : TypeId × Value → H) :
    ReturnsInHanded {} Trym.checked os 3 .any (Rows.fnAppendStringTwoFieldsReadBackSpec.pre6 enc Trym.prog Trym.f3 Rows.fnAppendStringTwoFieldsReadBackRow.domain false) (Rows.fnAppendStringTwoFieldsReadBackSpec.post enc Trym.prog Trym.f3 false true false false) := by
  refine returnsInHanded_of_change (C := Trym.checked) own started (by kernel_rfl) Trym.func3
    (ChangeSpec.witness6 (enc := enc) (C := Trym.checked) false ⟨#[], #[.slice none 0 0, .string ByteArray.empty, .string ByteArray.empty], []⟩ 8 (by kernel_rfl) (by kernel_rfl) (by kernel_rfl) (by kernel_rfl)) ?_
  intro W base args ds gs before hval0 hW hcnd _
  have hval : ∀ (j : Nat) t v, Trym.f3.params[j]? = some t → args[j]? = some v → Value.okWide Trym.prog W .any base t v := hval0
  have hW' := hW
  obtain ⟨p, q, hA0, hV, rfl, hfz, hnd⟩ := hW
  have hA : DataW.TrodAll enc Trym.prog W 0 (fun _ => true) true Trym.f3.params.toList args.toList ds p := hA0
  rw [Trym.params3] at hA hval
  obtain ⟨v0, vs0, d0, ds0, p0, q0, hargs, rfl, rfl, h0, r0⟩ := trodAll_cons hA
  obtain ⟨v1, vs1, d1, ds1, p1, q1, rfl, rfl, rfl, h1, r1⟩ := trodAll_cons r0
  obtain ⟨v2, vs2, d2, ds2, p2, q2, rfl, rfl, rfl, h2, r2⟩ := trodAll_cons r1
  obtain ⟨rfl, rfl, rfl⟩ := trodAll_nil r2
  obtain rfl : args = #[v0, v1, v2] := by cases args; simp_all
  obtain ⟨rfl, rfl⟩ := trodVars_none hV
  obtain ⟨a0, len0, cap0, rfl⟩ := okWide_slice Trym.underlying22 (hval 0 22 v0 rfl rfl)
  have k0 := h0
  have lt0 : ∀ x ∈ p0, x.block < W.heap.size := by obtain ⟨m, hm⟩ := k0; exact DataW.trod_lt m _ _ _ hm
  obtain ⟨z0, w0⟩ : ∃ zs, IsRow .u8 W a0 len0 cap0 zs := by
    obtain ⟨fuel, hf⟩ := h0
    rcases open_ints Trym.underlying22 Trym.underlying5 (by kernel_rfl) hf with ⟨hcs, _⟩ | ⟨x, l, c, zs, hcs, _, hl, hm, hz, _, hcell, hwz⟩
    · simp [Value.cells] at hcs
      obtain ⟨rfl, rfl, rfl⟩ := hcs
      exact ⟨[], .inl ⟨rfl, rfl, rfl, rfl⟩⟩
    · simp [Value.cells] at hcs
      obtain ⟨rfl, rfl, rfl⟩ := hcs
      exact ⟨zs, .inr ⟨_, rfl, hl, hm, by simpa using hz, hcell, hwz⟩⟩
  obtain ⟨a1, rfl, rfl, rfl, w1⟩ := open_string Trym.underlying9 (hval 1 9 v1 rfl rfl) h1
  obtain ⟨a2, rfl, rfl, rfl, w2⟩ := open_string Trym.underlying9 (hval 2 9 v2 rfl rfl) h2
  clear hA0 hval0
  refine (walk a0 len0 cap0 z0 a1 a2 W w0 w1 w2).mono fun e W' ⟨he, bel⟩ => ?_
  subst he
  exact ⟨_, rfl, _, _, _, [], _, [], hW', trodAll_mk1 (shut_bool Trym.underlying4 _), (trodAll_cons_mk (Below.trod laidOut (by kernel_rfl) (of_decide_eq_true (by kernel_rfl)) k0 bel lt0) (trodAll_cons_mk (shut_string Trym.underlying9 w1) (trodAll_cons_mk (shut_string Trym.underlying9 w2) trodAll_mk0))), rfl, bel.frame _, fun h => by cases h⟩

theorem over : Rows.fnAppendStringTwoFieldsReadBackRow.holds Trym.pinned (OpenSpec.ofChange Rows.fnAppendStringTwoFieldsReadBackSpec) :=
  OpenClaim.holds_of_wide 3 Trym.f3 rfl rfl rfl rfl rfl rfl rfl ⟨rfl, rfl, rfl, rfl, rfl⟩ rfl rfl rfl rfl rfl (by kernel_rfl) Trym.func3 (by kernel_rfl)
    (of_decide_eq_true (by kernel_rfl)) (by unfold Func.isWrapper; first | (rw [if_pos (by decide +kernel)]; kernel_rfl) | (rw [if_neg (by decide +kernel)]; exact ⟨rfl, rfl⟩))
    (fun os started H enc _ => lifted os started H enc)

/-- ████ THE STATEMENT ████ -/
theorem proved : Rows.FnAppendStringTwoFieldsReadBackSaid := over
end Go.Proofs.Qxb6603592aMods.fnAppendStringTwoFieldsReadBack
