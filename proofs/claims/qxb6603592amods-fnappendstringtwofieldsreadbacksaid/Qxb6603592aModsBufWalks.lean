import Derived.Test.Qxb6603592aModsRows
import Derived.WalkKit
import Derived.ProofKit
import Derived.OpenShut
import Derived.Below
import Derived.WalkSpells
import Derived.WalkLawsBesides
import Derived.ArgAppend
import Derived.Lib.VarintMem
import Derived.Lib.VarintBits
import Derived.Lib.AppendStr
namespace Go.Proofs.Qxb6603592aMods.bufWalks
open Go.ChangeShapes Go.WideShapes Go.ChangeAt Go.RowKit
set_option linter.unusedVariables false

theorem ret_bool {a b : Bool} (h : a = b) : Ending.returned (.bool a) = .returned (.bool b) := by rw [h]
theorem info5 : (Trym.prog.info? 5).map (fun i => (i.zero, i.size, i.bytes)) = some (some (.int .u8 0), 1, 1) := by kernel_rfl

theorem bytes_any (a : Option Addr) (len cap : Nat) (s t : ByteArray) (w : World) (h0 : len ≤ maxLen) (h1 : s.size ≤ maxLen) (h2 : t.size ≤ maxLen) :
    Calls Trym.prog 4 #[.slice a len cap, .string s, .string t] w fun e w' => e = .returned (.bool (decide (len + s.size + t.size ≤ 1048576))) ∧ w' = w := by
  unfold maxLen at h0 h1 h2
  go_enter Trym.func4, Trym.ntmps4
  go_wp2
  all_goals go_ret
  all_goals (refine ⟨?_, rfl⟩; first | exact ret_bool (decide_eq_true (by omega)).symm | exact ret_bool (decide_eq_false (by omega)).symm)

/-! ### The clone -/
theorem clone_nil (w : World) (c : Nat) : Calls Trym.prog 5 #[.slice none 0 c] w fun e w' => e = .returned (.slice none 0 0) ∧ w' = w := by
  have hq := fun w => Lib.run_eql_slice_nil (P := Trym.prog) w 22 5 none 0 c 0 0 Trym.underlying22
  go_enter Trym.func5, Trym.ntmps5
  go_wp2
  go_ret
  exact ⟨rfl, rfl⟩

theorem own_lt {w : World} {base : Nat} {e : TypeId} {size : Nat} {g n cap : Nat} {xs : List Value} (h : w.ownsRow base e size (.slice (some ⟨g, 0, none⟩) n cap) n xs) : g < w.heap.size := by
  rcases h.2 with ⟨h', _⟩ | ⟨g', cap', cur, h', _, hg, _⟩
  · simp at h'
  · simp only [Value.slice.injEq, Option.some.injEq, Addr.mk.injEq, and_true, true_and] at h'
    obtain ⟨rfl, rfl⟩ := h'
    exact (Array.getElem?_eq_some_iff.1 hg).1

theorem copy_step {w wr : World} {len k : Nat} {zs : List Int} {xs : List Value} (hlt : k < len) (hb : Below w.heap.size w wr) (hsz : w.heap.size < wr.heap.size)
    (ho : wr.ownsRow w.heap.size 5 1 (.slice (some ⟨w.heap.size, 0, none⟩) len len) len xs) (hxs : ∀ j, j < k → xs[j]? = some (.int .u8 (zs.getD j 0))) :
    Below w.heap.size w (wr.setCell ⟨w.heap.size, k, none⟩ (.int .u8 (zs.getD k 0))) ∧ w.heap.size < (wr.setCell ⟨w.heap.size, k, none⟩ (.int .u8 (zs.getD k 0))).heap.size ∧
      ∃ ys, (wr.setCell ⟨w.heap.size, k, none⟩ (.int .u8 (zs.getD k 0))).ownsRow w.heap.size 5 1 (.slice (some ⟨w.heap.size, 0, none⟩) len len) len ys ∧ ∀ j, j < k + 1 → ys[j]? = some (.int .u8 (zs.getD j 0)) := by
  have hs := ho.stored k (.int .u8 (zs.getD k 0))
  refine ⟨hb.setCell (Nat.le_refl _) _, by simpa [World.setCell] using hsz, _, hs.1, fun j hj => ?_⟩
  have hl := ho.1
  by_cases e : j = k
  · subst e; rw [List.getElem?_set_self (by omega)]
  · rw [List.getElem?_set_ne (by omega)]; exact hxs j (by omega)

theorem clone_some (x : Addr) (len cap : Nat) (zs : List Int) (w : World) (hl : len ≤ zs.length) (hs : len ≤ 1048576) (hc : ∀ i, i < zs.length → w.cell? (x.add i) = some (.int .u8 (zs.getD i 0))) :
    Calls Trym.prog 5 #[.slice (some x) len cap] w fun e w' => e = .returned (.slice (some ⟨w.heap.size, 0, none⟩) len len) ∧ Below w.heap.size w w' ∧ w.heap.size < w'.heap.size ∧ ∀ i, i < len → w'.cell? ⟨w.heap.size, i, none⟩ = some (.int .u8 (zs.getD i 0)) := by
  have hq := fun w => Lib.run_eql_slice_nil (P := Trym.prog) w 22 5 (some x) len cap 0 0 Trym.underlying22
  obtain ⟨i0, hi, hz0, hz1, hz2⟩ := info_parts info5
  go_enter Trym.func5, Trym.ntmps5
  go_wp2_with (first
    | (at_make; refine wpList_make_full _ rfl _ _ 22 rfl w.heap.size 5 i0 (.int .u8 0) 1 Trym.underlying22 hi hz0 hz1 .i64 .i64 len len len rfl rfl rfl rfl (by rw [hz2]; omega) (by unfold maxLen; omega) (Nat.le_refl _) ?_; intro w1 hown hgrow))
  go_loopw [4] (fun i wr => ∃ k : Nat, k ≤ len ∧ i = .int .i64 k ∧ Below w.heap.size w wr ∧ w.heap.size < wr.heap.size ∧ ∃ xs, wr.ownsRow w.heap.size 5 1 (.slice (some ⟨w.heap.size, 0, none⟩) len len) len xs ∧ ∀ j, j < k → xs[j]? = some (.int .u8 (zs.getD j 0)))
    (fun i _ => len - (intOf i).toNat)
  case atStart => exact ⟨0, Nat.zero_le _, rfl, (Below.refl _ _).grown hgrow (Nat.le_refl _) (fun _ h => by cases h), own_lt hown, _, hown, fun j hj => absurd hj (by omega)⟩
  case round =>
    obtain ⟨k, hk, rfl, hb, hsz, xs, hown2, hxs⟩ := hrel
    by_cases hlt : k < len
    · obtain ⟨b, off, rfl, hc'⟩ := ints_at hc (by omega)
      have hcx : wr.cell? ⟨b, off + k, none⟩ = some (.int .u8 (zs.getD k 0)) := by
        rw [hb.cell (p := ⟨b, off + k, none⟩) (World.block_lt_of_cell? w _ (hc' k (by omega)))]
        exact hc' k (by omega)
      have hfz := hown2.frozenAt k
      obtain ⟨v3, hcy⟩ : ∃ v3, wr.cell? ⟨w.heap.size, k, none⟩ = some v3 := by
        rw [hown2.cellAt k (by omega)]
        have := hown2.1
        exact ⟨_, List.getElem?_eq_getElem (by omega)⟩
      have R := copy_step hlt hb hsz hown2 hxs
      clear hc' hc hown hown2 hxs hgrow
      go_wp2
      go_roundw
      case rel => exact ⟨k + 1, by omega, by go_num, R⟩
      case measure => simp [intOf]; omega
    · obtain rfl : k = len := by omega
      clear hgrow hown
      go_wp2
      go_ret
      exact ⟨rfl, hb, hsz, fun i hi => by rw [hown2.cellAt i (by omega)]; exact hxs i hi⟩

/-! ### A slice of bytes that is appended to: the call's own row; or one without room, which an append leaves as it is -/
def Hold (base : Nat) (w : World) (v : Value) (n : Nat) (xs : List Value) : Prop :=
  w.ownsRow base 5 1 v n xs ∨ ∃ ao, v = .slice ao n n ∧ (ao = none → n = 0) ∧ xs.length = n ∧ ∀ b, ao = some b → ∀ j u, xs[j]? = some u → w.cell? (b.add j) = some u

theorem Hold.alloc {base : Nat} {w : World} {v : Value} {n : Nat} {xs : List Value} (h : Hold base w v n xs) (o : Obj) : Hold base (w.alloc o) v n xs := by
  rcases h with h | ⟨ao, h1, h2, h3, h4⟩
  · exact .inl (h.alloc _)
  · exact .inr ⟨ao, h1, h2, h3, fun b hb j u hj => by
      have := h4 b hb j u hj
      rw [World.cell?_alloc_lt w _ _ (World.block_lt_of_cell? w _ this)]; exact this⟩

theorem ownsRow_mono {w : World} {base base' : Nat} {e : TypeId} {size : Nat} {v : Value} {n : Nat} {xs : List Value} (h : w.ownsRow base e size v n xs) (hb : base' ≤ base) : w.ownsRow base' e size v n xs := by
  refine ⟨h.1, ?_⟩
  rcases h.2 with h2 | ⟨g, cap, cur, hv, hg, r⟩
  · exact .inl h2
  · exact .inr ⟨g, cap, cur, hv, Nat.le_trans hb hg, r⟩

theorem wpList_append_hold {P : Program} (w : World) {ops : Array Oper} {rest : List Oper} {o : Oper} {a : Act} {Q : Exit → Act → World → Prop} (hgd : o.guard = none) (s x : Operand) (t : TypeId)
    (ho : o.op = .call { callee := .builtin .append, args := #[s, x], argTypes := #[t, t] })
    (base : Nat) (i : TypeInfo) (ht : P.underlying t = some (.slice 5)) (hi : P.info? 5 = some i) (hz : i.zero = some (.int .u8 0)) (hsize : i.size = 1) (hby : i.bytes = 1)
    (v : Value) (n : Nat) (xs : List Value) (hs : a.eval s = v) (hh : Hold base w v n xs)
    (ad : Addr) (c : Nat) (u : Value) (hx : a.eval x = .slice (some ad) 1 c) (hnew : w.cell? ad = some u) (hspot : ad.add 0 = ad) (h1 : u.oneCell' = true)
    (hbytes : n + 1 ≤ 140737488355328) (hbase : base ≤ w.heap.size)
    (h : ∀ v' w', w'.ownsRow base 5 1 v' (n + 1) (xs ++ [u]) → Below base w w' → wpList P ops Q rest (a.put o.dst v') w') : wpList P ops Q (o :: rest) a w := by
  have hnews : ∀ (j : Nat) (y : Value), [u][j]? = some y → w.cell? (ad.add j) = some y := by
    intro j y hj
    match j, hj with
    | 0, hj => simp at hj; subst hj; rw [hspot]; exact hnew
  have h1' : ∀ y ∈ [u], y.oneCell' = true := by intro y hy; simp at hy; subst hy; exact h1
  rcases hh with hown | ⟨ao, rfl, h2, h3, h4⟩
  · exact wpList_append_own w hgd s x t ho base 5 i (.int .u8 0) 1 1 ht hi hz hsize hby rfl (by decide) v n xs hs hown ad 1 c [u] hx rfl hnews h1' (by unfold maxLen; omega) (by omega) hbase
      (fun v' w' ho' hg _ => h v' w' ho' ((Below.refl _ _).grown hg hbase (fun k hk => (hown.lt k hk).1)))
  · exact wpList_append_grows w hgd s x t ho 5 i (.int .u8 0) 1 1 ht hi hz hsize hby rfl (by decide) ao n n xs hs (fun e => ⟨h2 e, h2 e⟩) (by rw [h3, Nat.mul_one]) h4 ad 1 c [u] hx rfl hnews h1' (by omega) (by unfold maxLen; omega) (by omega)
      (fun v' w' ho' hg => h v' w' (ownsRow_mono ho' hbase) ((Below.refl _ _).grown hg hbase (fun k hk => by cases hk)))

set_option maxHeartbeats 4000000 in
set_option maxRecDepth 100000 in
theorem uv_any (base n x : Nat) (hx : x < 18446744073709551616) (sv : Value) (xs : List Value) (w : World) (hh : Hold base w sv n xs) (hBw : base ≤ w.heap.size) (hlim : n + 10 ≤ 140737488355328) :
    Calls Trym.prog 10 #[sv, .int .u64 x] w fun e w' => ∃ v', e = .returned v' ∧ w'.ownsRow base 5 1 v' (n + (Lib.uvarint x).length) (xs ++ Lib.byteCells (Lib.uvarint x)) ∧ Below base w w' := by
  obtain ⟨i0, hi, hz0, hz1, hz2⟩ := info_parts info5
  have hlen := Lib.uvarint_length64 hx
  go_enter Trym.func10, Trym.ntmps10
  go_wp2
  go_loopw [0, 1] (fun vb vx wr => ∃ (y : Nat) (pre : List UInt8), vx = .int .u64 y ∧ y ≤ x ∧ Hid (Lib.uvarint x = pre ++ Lib.uvarint y) ∧ Hold base wr vb (n + pre.length) (xs ++ Lib.byteCells pre) ∧ Below base w wr)
    (fun _ vx _ => (intOf vx).toNat)
  case atStart => exact ⟨x, [], rfl, Nat.le_refl _, rfl, by simpa [Lib.byteCells] using hh, Below.refl _ _⟩
  case round =>
    obtain ⟨y, pre, rfl, hy, HS, hold1, hnx⟩ := hrel
    have hpl : pre.length + (Lib.uvarint y).length ≤ 10 := by
      have h2 := congrArg List.length HS.out
      rw [List.length_append] at h2
      omega
    have hyp := Lib.uvarint_pos y
    have hbs : base ≤ wr.heap.size := by have := hnx.size; omega
    clear hh
    by_cases h128 : 128 ≤ y
    · have hor : bits .or .u8 ((y : Int) % 256) 128 = ((y % 128 + 128 : Nat) : Int) := by
        rw [Lib.u8_or128_any _ (by omega) (by omega)]
        omega
      go_wp2_with (at_builtin; refine wpList_append_hold _ rfl _ _ 22 rfl base i0 Trym.underlying22 hi hz0 hz1 hz2 _ _ _ rfl (hold1.alloc _) ⟨wr.heap.size, 0, none⟩ 1 (Value.int .u8 ((y % 128 + 128 : Nat) : Int)) rfl ?c1 rfl rfl ?c3 ?c5 ?_)
      case c1 => simp
      case c3 => omega
      case c5 => simp; omega
      intro v' w1 hown' hb1
      have hnx1 : Below base w w1 := (hnx.alloc hbs _).trans hb1
      clear hold1 hb1
      go_wp2
      go_roundw
      case rel =>
        refine ⟨y / 128, pre ++ [(y % 128 + 128).toUInt8], by go_num, by omega, by unfold Hid; rw [HS.out, Lib.uvarint_big h128]; simp, .inl ?_, hnx1⟩
        have ec : ((y % 128 + 128 : Nat) : Int) = (y : Int) % 128 + 128 := by omega
        rw [Lib.byteCells_snoc pre (by omega), List.length_append, List.length_singleton, ← Nat.add_assoc, ec]
        exact hown'
      case measure => simp [intOf]; omega
    · have hsm : Lib.uvarint y = [y.toUInt8] := Lib.uvarint_small (by omega)
      have HM : Hid (Lib.uvarint y = [y.toUInt8]) := hsm
      clear hsm
      go_wp2_with (at_builtin; refine wpList_append_hold _ rfl _ _ 22 rfl base i0 Trym.underlying22 hi hz0 hz1 hz2 _ _ _ rfl (hold1.alloc _) ⟨wr.heap.size, 0, none⟩ 1 (Value.int .u8 (y : Int)) rfl ?c1 rfl rfl ?c3 ?c5 ?_)
      case c1 => simp
      case c3 => omega
      case c5 => simp; omega
      intro v' w1 hown' hb1
      have hnx1 : Below base w w1 := (hnx.alloc hbs _).trans hb1
      clear hold1 hb1
      go_wp2
      go_ret
      refine ⟨v', rfl, ?_, hnx1⟩
      rw [HS.out, HM.out, Lib.byteCells_snoc pre (by omega), List.length_append, List.length_singleton, ← Nat.add_assoc]
      exact hown'

/-- One field: the length as a uvarint, then the bytes. -/
def field (s : ByteArray) : List UInt8 := Lib.uvarint s.size ++ s.data.toList
theorem field_length (s : ByteArray) : (field s).length = (Lib.uvarint s.size).length + s.size := by
  unfold field; rw [List.length_append, Array.length_toList]; rfl
theorem field_cells (s : ByteArray) : Lib.byteCells (field s) = Lib.byteCells (Lib.uvarint s.size) ++ Lib.strCells s := by
  unfold field; rw [Lib.byteCells_append]; rfl

set_option maxHeartbeats 4000000 in
set_option maxRecDepth 100000 in
theorem str_any (base n : Nat) (s : ByteArray) (hs : s.size ≤ 1048576) (sv : Value) (xs : List Value) (w : World) (hh : Hold base w sv n xs) (hBw : base ≤ w.heap.size) (hlim : n ≤ 8388608) :
    Calls Trym.prog 8 #[sv, .string s] w fun e w' => ∃ v', e = .returned v' ∧ w'.ownsRow base 5 1 v' (n + (field s).length) (xs ++ Lib.byteCells (field s)) ∧ Below base w w' := by
  obtain ⟨i0, hi, hz0, hz1, hz2⟩ := info_parts info5
  have hlen := Lib.uvarint_length64 (x := s.size) (by omega)
  have hu := uv_any base n s.size (by omega) sv xs w hh hBw (by omega)
  have HU : Hid (Calls Trym.prog 10 #[sv, .int .u64 s.size] w fun e w' => ∃ v', e = .returned v' ∧ w'.ownsRow base 5 1 v' (n + (Lib.uvarint s.size).length) (xs ++ Lib.byteCells (Lib.uvarint s.size)) ∧ Below base w w') := hu
  clear hu hh
  go_enter Trym.func8, Trym.ntmps8
  go_wp2_with fail
  refine HU.out.mono ?_
  rintro e w1 ⟨v1, rfl, hown1, hb1⟩
  have hbs : base ≤ w1.heap.size := by have := hb1.size; omega
  go_wp2_with (at_builtin; refine Lib.wpList_append_own_string _ rfl _ _ 22 9 rfl base 5 i0 Trym.underlying22 Trym.underlying9 hi hz0 hz1 hz2 _ _ _ rfl hown1 s rfl ?c1 ?c2 ?c3 ?_)
  case c1 => unfold maxLen; omega
  case c2 => omega
  case c3 => exact hbs
  intro v' w2 hown2 hg2 _
  have hb2 : Below base w w2 := hb1.grown hg2 hbs (fun k hk => (hown1.lt k hk).1)
  clear hg2
  go_wp2
  go_ret
  refine ⟨v', rfl, ?_, hb2⟩
  rw [field_length, field_cells, ← Nat.add_assoc]
  exact hown2

theorem zz_any (base n : Nat) (s : ByteArray) (hs : s.size ≤ 1048576) (sv : Value) (xs : List Value) (w : World) (hh : Hold base w sv n xs) (hBw : base ≤ w.heap.size) (hlim : n ≤ 8388608) :
    Calls Trym.prog 6 #[sv, .string s] w fun e w' => ∃ v', e = .returned v' ∧ w'.ownsRow base 5 1 v' (n + (field s).length) (xs ++ Lib.byteCells (field s)) ∧ Below base w w' := by
  have HU : Hid (Calls Trym.prog 8 #[sv, .string s] w fun e w' => ∃ v', e = .returned v' ∧ w'.ownsRow base 5 1 v' (n + (field s).length) (xs ++ Lib.byteCells (field s)) ∧ Below base w w') := str_any base n s hs sv xs w hh hBw hlim
  clear hh
  go_enter Trym.func6, Trym.ntmps6
  go_wp2_with fail
  refine HU.out.mono ?_
  rintro e w1 ⟨v1, rfl, hown1, hb1⟩
  go_wp2
  go_ret
  exact ⟨v1, rfl, hown1, hb1⟩

end Go.Proofs.Qxb6603592aMods.bufWalks
