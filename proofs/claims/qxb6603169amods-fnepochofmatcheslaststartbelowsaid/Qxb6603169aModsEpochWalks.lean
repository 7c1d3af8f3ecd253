import Derived.Test.Qxb6603169aModsRows
import Derived.WalkKit
import Derived.ProofKit
import Derived.OpenShut
import Derived.Below
import Derived.WalkSpells
import Derived.WalkLawsBesides
namespace Go.Proofs.Qxb6603169aMods.epochWalks
open Go.ChangeShapes Go.WideShapes Go.ChangeAt Go.RowKit
set_option linter.unusedVariables false

theorem ret_bool {a b : Bool} (h : a = b) : Ending.returned (.bool a) = .returned (.bool b) := by rw [h]

theorem bytes_any (a0 : Int) (a1 : Option Addr) (len1 cap1 : Nat) (a2 : Option Addr) (len2 cap2 : Nat) (a3 a4 a5 : Int) (w : World) (h1 : len1 ≤ maxLen) (h2 : len2 ≤ maxLen) :
    Calls Trym.prog 12 #[.int .i64 a0, .slice a1 len1 cap1, .slice a2 len2 cap2, .int .u64 a3, .int .i64 a4, .int .i64 a5] w fun e w' => e = .returned (.bool (decide (len1 + len2 ≤ 1048576))) ∧ w' = w := by
  unfold maxLen at h1 h2
  go_enter Trym.func12, Trym.ntmps12
  go_wp2
  all_goals go_ret
  all_goals (refine ⟨?_, rfl⟩; first | exact ret_bool (decide_eq_true (by omega)).symm | exact ret_bool (decide_eq_false (by omega)).symm)

theorem info2 : (Trym.prog.info? 2).map (fun i => (i.zero, i.size, i.bytes)) = some (some (.int .i64 0), 1, 8) := by kernel_rfl
theorem info38 : (Trym.prog.info? 38).map (fun i => (i.zero, i.size, i.bytes)) = some (some (.agg #[.int .i64 0, .int .i64 0]), 2, 16) := by kernel_rfl

theorem copy_nil (w : World) (c : Nat) : Calls Trym.prog 13 #[.slice none 0 c] w fun e w' => e = .returned (.slice none 0 0) ∧ w' = w := by
  have hq := fun w => Lib.run_eql_slice_nil (P := Trym.prog) w 28 2 none 0 c 0 0 Trym.underlying28
  go_enter Trym.func13, Trym.ntmps13
  go_wp2
  go_ret
  exact ⟨rfl, rfl⟩

theorem own_lt {w : World} {base : Nat} {e : TypeId} {size : Nat} {g n cap : Nat} {xs : List Value} (h : w.ownsRow base e size (.slice (some ⟨g, 0, none⟩) n cap) n xs) : g < w.heap.size := by
  rcases h.2 with ⟨h', _⟩ | ⟨g', cap', cur, h', _, hg, _⟩
  · simp at h'
  · simp only [Value.slice.injEq, Option.some.injEq, Addr.mk.injEq, and_true, true_and] at h'
    obtain ⟨rfl, rfl⟩ := h'
    exact (Array.getElem?_eq_some_iff.1 hg).1

theorem copy_step {w wr : World} {len k : Nat} {zs : List Int} {xs : List Value} (hlt : k < len) (hb : Below w.heap.size w wr) (hsz : w.heap.size < wr.heap.size)
    (ho : wr.ownsRow w.heap.size 2 1 (.slice (some ⟨w.heap.size, 0, none⟩) len len) len xs) (hxs : ∀ j, j < k → xs[j]? = some (.int .i64 (zs.getD j 0))) :
    Below w.heap.size w (wr.setCell ⟨w.heap.size, k, none⟩ (.int .i64 (zs.getD k 0))) ∧ w.heap.size < (wr.setCell ⟨w.heap.size, k, none⟩ (.int .i64 (zs.getD k 0))).heap.size ∧
      ∃ ys, (wr.setCell ⟨w.heap.size, k, none⟩ (.int .i64 (zs.getD k 0))).ownsRow w.heap.size 2 1 (.slice (some ⟨w.heap.size, 0, none⟩) len len) len ys ∧ ∀ j, j < k + 1 → ys[j]? = some (.int .i64 (zs.getD j 0)) := by
  have hs := ho.stored k (.int .i64 (zs.getD k 0))
  refine ⟨hb.setCell (Nat.le_refl _) _, by simpa [World.setCell] using hsz, _, hs.1, fun j hj => ?_⟩
  have hl := ho.1
  by_cases e : j = k
  · subst e; rw [List.getElem?_set_self (by omega)]
  · rw [List.getElem?_set_ne (by omega)]; exact hxs j (by omega)

theorem copy_some (x : Addr) (len cap : Nat) (zs : List Int) (w : World) (hl : len ≤ zs.length) (hs : len ≤ 65536) (hc : ∀ i, i < zs.length → w.cell? (x.add i) = some (.int .i64 (zs.getD i 0))) :
    Calls Trym.prog 13 #[.slice (some x) len cap] w fun e w' => e = .returned (.slice (some ⟨w.heap.size, 0, none⟩) len len) ∧ Below w.heap.size w w' ∧ w.heap.size < w'.heap.size ∧ ∀ i, i < len → w'.cell? ⟨w.heap.size, i, none⟩ = some (.int .i64 (zs.getD i 0)) := by
  have hq := fun w => Lib.run_eql_slice_nil (P := Trym.prog) w 28 2 (some x) len cap 0 0 Trym.underlying28
  obtain ⟨i0, hi, hz0, hz1, hz2⟩ := info_parts info2
  go_enter Trym.func13, Trym.ntmps13
  go_wp2_with (first
    | (at_make; refine wpList_make_full _ rfl _ _ 28 rfl w.heap.size 2 i0 (.int .i64 0) 1 Trym.underlying28 hi hz0 hz1 .i64 .i64 len len len rfl rfl rfl rfl (by rw [hz2]; omega) (by unfold maxLen; omega) (Nat.le_refl _) ?_; intro w1 hown hgrow))
  go_loopw [4] (fun i wr => ∃ k : Nat, k ≤ len ∧ i = .int .i64 k ∧ Below w.heap.size w wr ∧ w.heap.size < wr.heap.size ∧ ∃ xs, wr.ownsRow w.heap.size 2 1 (.slice (some ⟨w.heap.size, 0, none⟩) len len) len xs ∧ ∀ j, j < k → xs[j]? = some (.int .i64 (zs.getD j 0)))
    (fun i _ => len - (intOf i).toNat)
  case atStart => exact ⟨0, Nat.zero_le _, rfl, (Below.refl _ _).grown hgrow (Nat.le_refl _) (fun _ h => by cases h), own_lt hown, _, hown, fun j hj => absurd hj (by omega)⟩
  case round =>
    obtain ⟨k, hk, rfl, hb, hsz, xs, hown2, hxs⟩ := hrel
    by_cases hlt : k < len
    · obtain ⟨b, off, rfl, hc'⟩ := ints_at hc (by omega)
      have hcx : wr.cell? ⟨b, off + k, none⟩ = some (.int .i64 (zs.getD k 0)) := by
        rw [hb.cell (p := ⟨b, off + k, none⟩) (World.block_lt_of_cell? w _ (hc' k (by omega)))]
        exact hc' k (by omega)
      have hfz := hown2.frozenAt k
      obtain ⟨v3, hcy⟩ : ∃ v3, wr.cell? ⟨w.heap.size, k, none⟩ = some v3 := by
        rw [hown2.cellAt k (by omega)]
        have := hown2.1
        exact ⟨_, List.getElem?_eq_getElem (by omega)⟩
      have R := copy_step hlt hb hsz hown2 hxs
      clear hc' hc hown hown2 hxs hgrow
      go_wp2
      go_roundw
      case rel => exact ⟨k + 1, by omega, by go_num, R⟩
      case measure => simp [intOf]; omega
    · obtain rfl : k = len := by omega
      clear hgrow hown
      go_wp2
      go_ret
      exact ⟨rfl, hb, hsz, fun i hi => by rw [hown2.cellAt i (by omega)]; exact hxs i hi⟩

def want (E S : List Int) (c : Int) : Nat → Int
  | 0 => 0
  | n + 1 => if S.getD n 0 < c then E.getD n 0 else want E S c n

theorem want_hit {E S : List Int} {c : Int} {k : Nat} (h : S[k]?.getD 0 < c) : want E S c (k + 1) = E[k]?.getD 0 := by
  simp [want, h]
theorem want_miss {E S : List Int} {c : Int} {k : Nat} (h : c ≤ S[k]?.getD 0) : want E S c (k + 1) = want E S c k := by
  simp [want]; intro h'; omega
theorem ret_int {k : IntKind} {a b : Int} (h : a = b) : Ending.returned (.int k a) = .returned (.int k b) := by rw [h]

theorem epochOf_new (ep : Int) (r : Option Addr) (n m : Nat) (ai si c : Int) (w : World) (h1 : 0 < si) (h2 : si < c) :
    Calls Trym.prog 18 #[.agg #[.int .i64 ep, .slice r n m, .int .u64 ai, .int .i64 si], .int .i64 c] w fun e w' => e = .returned (.int .i64 ep) ∧ Below w.heap.size w w' := by
  go_enter Trym.func18, Trym.ntmps18
  go_wp2
  go_ret
  exact ⟨rfl, (Below.refl _ _).alloc (Nat.le_refl _) _⟩

theorem epochOf_old (ep : Int) (r : Option Addr) (n m : Nat) (ai si c : Int) (E S : List Int) (w : World) (hn : n ≤ 65536) (h12 : ¬ (0 < si ∧ si < c))
    (hr : 0 < n → ∃ b, r = some ⟨b, 0, none⟩ ∧ ∀ i, i < n → w.cell? ⟨b, i * 2, none⟩ = some (.int .i64 (E.getD i 0)) ∧ w.cell? ⟨b, i * 2 + 1, none⟩ = some (.int .i64 (S.getD i 0))) :
    Calls Trym.prog 18 #[.agg #[.int .i64 ep, .slice r n m, .int .u64 ai, .int .i64 si], .int .i64 c] w fun e w' => e = .returned (.int .i64 (want E S c n)) ∧ Below w.heap.size w w' := by
  go_enter Trym.func18, Trym.ntmps18
  go_wp2
  all_goals
    go_loopw [5] (fun i wr => wr = w.alloc (.cells #[.int .i64 ep, .slice r n m, .int .u64 ai, .int .i64 si] 40) ∧ ((i = .int .i64 (-1) ∧ want E S c n = 0) ∨ ∃ k : Nat, k < n ∧ i = .int .i64 k ∧ want E S c n = want E S c (k + 1))) (fun i _ => (intOf i + 1).toNat)
    case atStart =>
      refine ⟨rfl, ?_⟩
      cases n with
      | zero => exact .inl ⟨rfl, rfl⟩
      | succ n => exact .inr ⟨n, by omega, by go_num, rfl⟩
    case round =>
      obtain ⟨rfl, hrel⟩ := hrel
      rcases hrel with ⟨rfl, hw⟩ | ⟨k, hk, rfl, hw⟩
      · have HW : Hid (want E S c n = 0) := hw
        clear hw
        go_wp2
        go_ret
        exact ⟨by rw [HW.out]; rfl, (Below.refl _ _).alloc (Nat.le_refl _) _⟩
      · have HW : Hid (want E S c n = want E S c (k + 1)) := hw
        clear hw
        obtain ⟨b, rfl, hc⟩ := hr (by omega)
        have hlt1 := World.block_lt_of_cell? w _ (hc k hk).1
        simp only at hlt1
        have hc1 := (hc k hk).1
        have hc2 := (hc k hk).2
        go_wp2
        · have hq : S[k]?.getD 0 < c := by assumption
          go_ret
          exact ⟨ret_int (by rw [HW.out]; exact (want_hit hq).symm), (Below.refl _ _).alloc (Nat.le_refl _) _⟩
        · have hq : c ≤ S[k]?.getD 0 := by assumption
          go_roundw
          case rel => 
            refine ⟨trivial, ?_⟩
            cases k with
            | zero => exact .inl ⟨rfl, by rw [HW.out]; exact want_miss hq⟩
            | succ k => exact .inr ⟨k, by omega, by go_num, by rw [HW.out]; exact want_miss hq⟩
          case measure => simp [intOf]

def ans (ep : Int) (E S : List Int) (n : Nat) (si c : Int) : Int := if 0 < si ∧ si < c then ep else want E S c n

theorem epochOf_any (ep : Int) (r : Option Addr) (n m : Nat) (ai si c : Int) (E S : List Int) (w : World) (hn : n ≤ 65536)
    (hr : 0 < n → ∃ b, r = some ⟨b, 0, none⟩ ∧ ∀ i, i < n → w.cell? ⟨b, i * 2, none⟩ = some (.int .i64 (E.getD i 0)) ∧ w.cell? ⟨b, i * 2 + 1, none⟩ = some (.int .i64 (S.getD i 0))) :
    Calls Trym.prog 18 #[.agg #[.int .i64 ep, .slice r n m, .int .u64 ai, .int .i64 si], .int .i64 c] w fun e w' => e = .returned (.int .i64 (ans ep E S n si c)) ∧ Below w.heap.size w w' := by
  unfold ans
  by_cases h : 0 < si ∧ si < c
  · rw [if_pos h]; exact epochOf_new ep r n m ai si c w h.1 h.2
  · rw [if_neg h]; exact epochOf_old ep r n m ai si c E S w hn h hr

theorem pair_step {w wr : World} {n k : Nat} {E S : List Int} {xs : List Value} (hlt : k < n) (hb : Below w.heap.size w wr) (hsz : w.heap.size < wr.heap.size)
    (ho : wr.ownsRow w.heap.size 38 2 (.slice (some ⟨w.heap.size, 0, none⟩) n n) n xs) (hxs : ∀ j, j < k → xs[j * 2]? = some (.int .i64 (E.getD j 0)) ∧ xs[j * 2 + 1]? = some (.int .i64 (S.getD j 0))) :
    Hid (Below w.heap.size w ((wr.setCell ⟨w.heap.size, k * 2, none⟩ (.int .i64 (E.getD k 0))).setCell ⟨w.heap.size, k * 2 + 1, none⟩ (.int .i64 (S.getD k 0))).drew ∧
      w.heap.size < ((wr.setCell ⟨w.heap.size, k * 2, none⟩ (.int .i64 (E.getD k 0))).setCell ⟨w.heap.size, k * 2 + 1, none⟩ (.int .i64 (S.getD k 0))).drew.heap.size ∧
      ∃ ys, ((wr.setCell ⟨w.heap.size, k * 2, none⟩ (.int .i64 (E.getD k 0))).setCell ⟨w.heap.size, k * 2 + 1, none⟩ (.int .i64 (S.getD k 0))).drew.ownsRow w.heap.size 38 2 (.slice (some ⟨w.heap.size, 0, none⟩) n n) n ys ∧
        ∀ j, j < k + 1 → ys[j * 2]? = some (.int .i64 (E.getD j 0)) ∧ ys[j * 2 + 1]? = some (.int .i64 (S.getD j 0))) := by
  have h1 := ho.stored (k * 2) (.int .i64 (E.getD k 0))
  have h2 := h1.1.stored (k * 2 + 1) (.int .i64 (S.getD k 0))
  refine ⟨((hb.setCell (Nat.le_refl _) _).setCell (Nat.le_refl _) _).drew, by simpa [World.setCell] using hsz, _, h2.1.drew, fun j hj => ?_⟩
  have hl := ho.1
  by_cases e : j = k
  · subst e
    exact ⟨by rw [List.getElem?_set_ne (by omega), List.getElem?_set_self (by omega)], by rw [List.getElem?_set_self (by simp; omega)]⟩
  · exact ⟨by rw [List.getElem?_set_ne (by omega), List.getElem?_set_ne (by omega)]; exact (hxs j (by omega)).1, by rw [List.getElem?_set_ne (by omega), List.getElem?_set_ne (by omega)]; exact (hxs j (by omega)).2⟩

theorem zz_nil (ep : Int) (r2 : Option Addr) (m2 : Nat) (ai si c : Int) (E S : List Int) (w : World) :
    Calls Trym.prog 14 #[.int .i64 ep, .slice none 0 0, .slice r2 0 m2, .int .u64 ai, .int .i64 si, .int .i64 c] w fun e w' => e = .returned (.int .i64 (ans ep E S 0 si c)) ∧ Below w.heap.size w w' := by
  have hq := fun w => run_neq_slice_nil_any (P := Trym.prog) w 28 2 none 0 0 0 0 Trym.underlying28
  go_enter Trym.func14, Trym.ntmps14
  go_wp2
  refine wp_loop_rounds 1 ?_; rw [rounds_succ]
  go_wp2_with (go_at_call 18; refine (epochOf_any ep none 0 0 ai si c E S w (by omega) (fun h => absurd h (by omega))).mono ?_; rintro e w' ⟨rfl, hb⟩)
  go_ret
  exact ⟨rfl, hb⟩

theorem zz_some (ep : Int) (b1 n : Nat) (r2 : Option Addr) (m1 m2 : Nat) (ai si c : Int) (E S : List Int) (w : World) (hn : n ≤ 65536)
    (hc1 : ∀ i, i < n → w.cell? ⟨b1, i, none⟩ = some (.int .i64 (E.getD i 0)))
    (h2 : 0 < n → ∃ b2, r2 = some ⟨b2, 0, none⟩ ∧ ∀ i, i < n → w.cell? ⟨b2, i, none⟩ = some (.int .i64 (S.getD i 0))) :
    Calls Trym.prog 14 #[.int .i64 ep, .slice (some ⟨b1, 0, none⟩) n m1, .slice r2 n m2, .int .u64 ai, .int .i64 si, .int .i64 c] w fun e w' => e = .returned (.int .i64 (ans ep E S n si c)) ∧ Below w.heap.size w w' := by
  have hq := fun w => run_neq_slice_nil_any (P := Trym.prog) w 28 2 (some ⟨b1, 0, none⟩) n m1 0 0 Trym.underlying28
  obtain ⟨i0, hi, hz0, hz1, hz2⟩ := info_parts info38
  go_enter Trym.func14, Trym.ntmps14
  go_wp2_with (first
    | (at_make; refine wpList_make_full _ rfl _ _ 36 rfl w.heap.size 38 i0 (.agg #[.int .i64 0, .int .i64 0]) 2 Trym.underlying36 hi hz0 hz1 .i64 .i64 n n n rfl rfl rfl rfl (by rw [hz2]; omega) (by unfold maxLen; omega) (Nat.le_refl _) ?_; intro w1 hown hgrow))
  go_loopw [14] (fun i wr => ∃ k : Nat, k ≤ n ∧ i = .int .i64 k ∧ Below w.heap.size w wr ∧ w.heap.size < wr.heap.size ∧ ∃ xs, wr.ownsRow w.heap.size 38 2 (.slice (some ⟨w.heap.size, 0, none⟩) n n) n xs ∧ ∀ j, j < k → xs[j * 2]? = some (.int .i64 (E.getD j 0)) ∧ xs[j * 2 + 1]? = some (.int .i64 (S.getD j 0)))
    (fun i _ => n - (intOf i).toNat)
  case atStart => exact ⟨0, Nat.zero_le _, rfl, (Below.refl _ _).grown hgrow (Nat.le_refl _) (fun _ h => by cases h), own_lt hown, _, hown, fun j hj => absurd hj (by omega)⟩
  case round =>
    obtain ⟨k, hk, rfl, hb, hsz, xs, hown2, hxs⟩ := hrel
    by_cases hlt : k < n
    · obtain ⟨b2, rfl, hc2⟩ := h2 (by omega)
      have hcx : wr.cell? ⟨b1, k, none⟩ = some (.int .i64 (E.getD k 0)) := by
        rw [hb.cell (p := ⟨b1, k, none⟩) (World.block_lt_of_cell? w _ (hc1 k (by omega)))]
        exact hc1 k (by omega)
      have hcx2 : wr.cell? ⟨b2, k, none⟩ = some (.int .i64 (S.getD k 0)) := by
        rw [hb.cell (p := ⟨b2, k, none⟩) (World.block_lt_of_cell? w _ (hc2 k (by omega)))]
        exact hc2 k (by omega)
      have hfz := hown2.frozenAt (k * 2)
      have hfz2 := hown2.frozenAt (k * 2 + 1)
      obtain ⟨v3, hcy⟩ : ∃ v3, wr.cell? ⟨w.heap.size, k * 2, none⟩ = some v3 := by
        rw [hown2.cellAt (k * 2) (by omega)]
        have := hown2.1
        exact ⟨_, List.getElem?_eq_getElem (by omega)⟩
      obtain ⟨v4, hcy2⟩ : ∃ v4, wr.cell? ⟨w.heap.size, k * 2 + 1, none⟩ = some v4 := by
        rw [hown2.cellAt (k * 2 + 1) (by omega)]
        have := hown2.1
        exact ⟨_, List.getElem?_eq_getElem (by omega)⟩
      have R := pair_step hlt hb hsz hown2 hxs
      clear hc1 hc2 hown hown2 hxs hgrow h2
      go_wp2
      go_region
      go_wp2
      go_roundw
      case rel => 
        exact ⟨k + 1, by omega, by go_num, R.out⟩
      case measure => simp [intOf]; omega
    · obtain rfl : k = n := by omega
      clear hgrow hown
      have HR : Hid (0 < k → ∃ b, some (⟨w.heap.size, 0, none⟩ : Addr) = some ⟨b, 0, none⟩ ∧ ∀ i, i < k → wr.cell? ⟨b, i * 2, none⟩ = some (.int .i64 (E.getD i 0)) ∧ wr.cell? ⟨b, i * 2 + 1, none⟩ = some (.int .i64 (S.getD i 0))) :=
        fun _ => ⟨_, rfl, fun i hi => ⟨by rw [hown2.cellAt _ (by omega)]; exact (hxs i hi).1, by rw [hown2.cellAt _ (by omega)]; exact (hxs i hi).2⟩⟩
      clear hown2 hxs hc1 h2
      go_wp2_with (go_at_call 18; refine (epochOf_any ep _ k k ai si c E S _ hn HR.out).mono ?_; rintro e w' ⟨rfl, hb'⟩)
      go_ret
      exact ⟨rfl, hb.trans (hb'.mono hb.size)⟩
end Go.Proofs.Qxb6603169aMods.epochWalks
