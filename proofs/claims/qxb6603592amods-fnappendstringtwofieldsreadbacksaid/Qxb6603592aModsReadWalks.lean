import Derived.Test.Qxb6603592aModsBufWalks
import Derived.Lib.EndianBits
namespace Go.Proofs.Qxb6603592aMods.bufWalks
open Go.ChangeShapes Go.WideShapes Go.ChangeAt Go.RowKit
set_option linter.unusedVariables false

theorem or1 (c : Nat) (h : c < 256) : bits .or .u64 0 (IntKind.u64.wrap (IntKind.u64.wrap (bits .and .u8 (c : Int) 127))) = (c : Int) % 128 := by
  simp (disch := omega) only [u8_and127, u64_wrap_id, u64_orv0]
  omega
theorem or2 (a : Int) (c : Nat) (ha0 : 0 ≤ a) (ha : a < 128) (h : c < 256) : bits .or .u64 a (IntKind.u64.wrap (IntKind.u64.wrap (bits .and .u8 (c : Int) 127) * 128)) = a + (c : Int) % 128 * 128 := by
  simp (disch := omega) only [u8_and127, u64_wrap_id, u64_orv7]
theorem or3 (a : Int) (c : Nat) (ha0 : 0 ≤ a) (ha : a < 16384) (h : c < 256) : bits .or .u64 a (IntKind.u64.wrap (IntKind.u64.wrap (bits .and .u8 (c : Int) 127) * 16384)) = a + (c : Int) % 128 * 16384 := by
  simp (disch := omega) only [u8_and127, u64_wrap_id, u64_orv14]

theorem ret_read {a a' : Int} {b b' : Int} (h : a = a') (h' : b = b') : Ending.returned (.tuple #[.int .u64 a, .int .i64 b, .bool true]) = .returned (.tuple #[.int .u64 a', .int .i64 b', .bool true]) := by rw [h, h']

set_option maxRecDepth 100000 in
theorem read1 (g n cap i c0 : Nat) (w : World) (hn : n ≤ 8388608) (hi : i < n) (h0 : c0 < 128) (hc : w.cell? ⟨g, i, none⟩ = some (.int .u8 (c0 : Int))) :
    Calls Trym.prog 9 #[.slice (some ⟨g, 0, none⟩) n cap, .int .i64 i] w fun e w' => e = .returned (.tuple #[.int .u64 (c0 : Nat), .int .i64 ((i + 1 : Nat) : Int), .bool true]) ∧ w' = w := by
  have e1 := or1 c0 (by omega)
  go_enter Trym.func9, Trym.ntmps9
  go_wp2
  refine wp_loop_rounds 1 ?_; rw [rounds_succ]
  go_wp2
  go_ret3
  exact ⟨ret_read (by omega) (by omega), rfl⟩

set_option maxRecDepth 100000 in
theorem read2 (g n cap i c0 c1 : Nat) (w : World) (hn : n ≤ 8388608) (hi : i + 1 < n) (h0 : 128 ≤ c0) (h0' : c0 < 256) (h1 : c1 < 128) (hc0 : w.cell? ⟨g, i, none⟩ = some (.int .u8 (c0 : Int))) (hc1 : w.cell? ⟨g, i + 1, none⟩ = some (.int .u8 (c1 : Int))) :
    Calls Trym.prog 9 #[.slice (some ⟨g, 0, none⟩) n cap, .int .i64 i] w fun e w' => e = .returned (.tuple #[.int .u64 ((c0 - 128 + c1 * 128 : Nat) : Int), .int .i64 ((i + 2 : Nat) : Int), .bool true]) ∧ w' = w := by
  have e1 := or1 c0 (by omega)
  have e2 := or2 ((c0 : Int) % 128) c1 (by omega) (by omega) (by omega)
  go_enter Trym.func9, Trym.ntmps9
  go_wp2
  refine wp_loop_rounds 2 ?_; rw [rounds_succ]
  go_wp2
  rw [rounds_succ]
  go_wp2
  go_ret3
  exact ⟨ret_read (by omega) (by omega), rfl⟩

set_option maxRecDepth 100000 in
theorem read3 (g n cap i c0 c1 c2 : Nat) (w : World) (hn : n ≤ 8388608) (hi : i + 2 < n) (h0 : 128 ≤ c0) (h0' : c0 < 256) (h1 : 128 ≤ c1) (h1' : c1 < 256) (h2 : c2 < 128) (hc0 : w.cell? ⟨g, i, none⟩ = some (.int .u8 (c0 : Int))) (hc1 : w.cell? ⟨g, i + 1, none⟩ = some (.int .u8 (c1 : Int)))
    (hc2 : w.cell? ⟨g, i + 2, none⟩ = some (.int .u8 (c2 : Int))) :
    Calls Trym.prog 9 #[.slice (some ⟨g, 0, none⟩) n cap, .int .i64 i] w fun e w' => e = .returned (.tuple #[.int .u64 ((c0 - 128 + (c1 - 128) * 128 + c2 * 16384 : Nat) : Int), .int .i64 ((i + 3 : Nat) : Int), .bool true]) ∧ w' = w := by
  have e1 := or1 c0 (by omega)
  have e2 := or2 ((c0 : Int) % 128) c1 (by omega) (by omega) (by omega)
  have e3 := or3 ((c0 : Int) % 128 + (c1 : Int) % 128 * 128) c2 (by omega) (by omega) (by omega)
  go_enter Trym.func9, Trym.ntmps9
  go_wp2
  refine wp_loop_rounds 3 ?_; rw [rounds_succ]
  go_wp2
  rw [rounds_succ]
  go_wp2
  rw [rounds_succ]
  go_wp2
  go_ret3
  exact ⟨ret_read (by omega) (by omega), rfl⟩


/-- The bytes 'l' lie in block g from place o on. -/
def Lies (w : World) (g o : Nat) (l : List UInt8) : Prop := ∀ j (hj : j < l.length), w.cell? ⟨g, o + j, none⟩ = some (.int .u8 (l[j].toNat : Int))

theorem Lies.first {w : World} {g o : Nat} {c : UInt8} {l : List UInt8} (h : Lies w g o (c :: l)) : w.cell? ⟨g, o, none⟩ = some (.int .u8 (c.toNat : Int)) := h 0 (by simp)
theorem Lies.rest {w : World} {g o : Nat} {c : UInt8} {l : List UInt8} (h : Lies w g o (c :: l)) : Lies w g (o + 1) l := fun j hj => by
  have := h (j + 1) (by simp; omega)
  rw [show o + 1 + j = o + (j + 1) by omega]
  simpa using this
theorem Lies.left {w : World} {g o : Nat} {l m : List UInt8} (h : Lies w g o (l ++ m)) : Lies w g o l := fun j hj => by
  have := h j (by simp; omega)
  rwa [List.getElem_append_left hj] at this
theorem Lies.right {w : World} {g o : Nat} {l m : List UInt8} (h : Lies w g o (l ++ m)) : Lies w g (o + l.length) m := fun j hj => by
  have := h (l.length + j) (by simp; omega)
  rw [show o + l.length + j = o + (l.length + j) by omega, this]
  congr 3
  rw [List.getElem_append_right (by omega)]
  simp
theorem Lies.below {w w' : World} {g o : Nat} {l : List UInt8} (h : Lies w g o l) (hb : Below w.heap.size w w') : Lies w' g o l := fun j hj => by
  rw [hb.cell (p := ⟨g, o + j, none⟩) (World.block_lt_of_cell? w _ (h j hj))]; exact h j hj

theorem read_uv (g n cap i x : Nat) (w : World) (hn : n ≤ 8388608) (hx : x ≤ 1048576) (hl : Lies w g i (Lib.uvarint x)) (hi : i + (Lib.uvarint x).length ≤ n) :
    Calls Trym.prog 9 #[.slice (some ⟨g, 0, none⟩) n cap, .int .i64 i] w fun e w' => e = .returned (.tuple #[.int .u64 (x : Int), .int .i64 ((i + (Lib.uvarint x).length : Nat) : Int), .bool true]) ∧ w' = w := by
  by_cases h1 : x < 128
  · rw [Lib.uvarint_small h1] at hl hi ⊢
    have c0 := hl.first
    rw [Lib.toUInt8_toNat (by omega)] at c0
    simp only [List.length_singleton] at hi ⊢
    exact read1 g n cap i x w hn (by omega) h1 c0
  · by_cases h2 : x / 128 < 128
    · rw [Lib.uvarint_big (by omega), Lib.uvarint_small h2] at hl hi ⊢
      have c0 := hl.first
      have c1 := hl.rest.first
      rw [Lib.toUInt8_toNat (by omega)] at c0 c1
      simp only [List.length_cons, List.length_nil] at hi ⊢
      have := read2 g n cap i (x % 128 + 128) (x / 128) w hn (by omega) (by omega) (by omega) h2 c0 c1
      rw [show x % 128 + 128 - 128 + x / 128 * 128 = x by omega] at this
      exact this
    · rw [Lib.uvarint_big (by omega), Lib.uvarint_big (by omega), Lib.uvarint_small (x := x / 128 / 128) (by omega)] at hl hi ⊢
      have c0 := hl.first
      have c1 := hl.rest.first
      have c2 := hl.rest.rest.first
      rw [Lib.toUInt8_toNat (by omega)] at c0 c1 c2
      simp only [List.length_cons, List.length_nil] at hi ⊢
      have := read3 g n cap i (x % 128 + 128) (x / 128 % 128 + 128) (x / 128 / 128) w hn (by omega) (by omega) (by omega) (by omega) (by omega) (by omega) c0 c1 c2
      rw [show x % 128 + 128 - 128 + (x / 128 % 128 + 128 - 128) * 128 + x / 128 / 128 * 16384 = x by omega] at this
      exact this

theorem ret_field {a a' : Int} (h : a = a') : Ending.returned (.tuple #[.int .i64 a, .bool true]) = .returned (.tuple #[.int .i64 a', .bool true]) := by rw [h]

theorem read_field (g n cap i : Nat) (s : ByteArray) (w : World) (hn : n ≤ 8388608) (hs : s.size ≤ 1048576) (hl : Lies w g i (field s)) (hi : i + (field s).length ≤ n) :
    Calls Trym.prog 7 #[.slice (some ⟨g, 0, none⟩) n cap, .int .i64 i, .string s] w fun e w' => e = .returned (.tuple #[.int .i64 ((i + (field s).length : Nat) : Int), .bool true]) ∧ Below w.heap.size w w' := by
  have hfl := field_length s
  obtain ⟨j, hj⟩ : ∃ j, j = i + (Lib.uvarint s.size).length := ⟨_, rfl⟩
  have hu := read_uv g n cap i s.size w hn hs hl.left (by omega)
  have HL : Hid (Lies w g j s.data.toList) := by rw [hj]; exact hl.right
  rw [← hj] at hu
  have HE : Hid (j + s.size = i + (field s).length) := by unfold Hid; omega
  have hjn : j + s.size ≤ n := by omega
  have HU : Hid (Calls Trym.prog 9 #[.slice (some ⟨g, 0, none⟩) n cap, .int .i64 i] w fun e w' => e = .returned (.tuple #[.int .u64 (s.size : Int), .int .i64 (j : Int), .bool true]) ∧ w' = w) := hu
  clear hu hl hfl hj hi
  go_enter Trym.func7, Trym.ntmps7
  go_wp2_with fail
  refine HU.out.mono ?_
  rintro e w' ⟨rfl, hw'⟩
  obtain rfl : w = w' := hw'.symm
  go_wp2_with fail
  go_loopw [11] (fun v wr => ∃ k : Nat, k ≤ s.size ∧ v = .int .i64 k ∧ Below w.heap.size w wr) (fun v _ => s.size - (intOf v).toNat)
  case atStart => exact ⟨0, Nat.zero_le _, rfl, Below.refl _ _⟩
  case round =>
    obtain ⟨k, hk, rfl, hb⟩ := hrel
    by_cases hlt : k < s.size
    · have hck : wr.cell? ⟨g, j + k, none⟩ = some (.int .u8 (s[k].toNat : Int)) := by
        have hk' : k < s.data.toList.length := by rw [Array.length_toList]; exact hlt
        rw [HL.out.below hb k hk']; simp only [Array.getElem_toList]; rfl
      go_wp2
      go_region
      go_wp2
      go_roundw
      case rel => exact ⟨k + 1, by omega, by go_num, hb.drew⟩
      case measure => simp [intOf]; omega
    · go_wp2
      go_ret2
      exact ⟨ret_field (by have := HE.out; omega), hb⟩
end Go.Proofs.Qxb6603592aMods.bufWalks
