import Derived.Test.Qxb6603169aModsRows
import Derived.WalkKit
import Derived.ProofKit
import Derived.OpenShut
import Derived.Below
import Derived.WalkSpells
import Derived.WalkLawsBesides
import Derived.Laws.IdiomStrings
namespace Go.Proofs.Qxb6603169aMods.keyWalks
open Go.ChangeShapes Go.WideShapes Go.ChangeAt Go.RowKit
set_option linter.unusedVariables false

theorem ret_bool {a b : Bool} (h : a = b) : Ending.returned (.bool a) = .returned (.bool b) := by rw [h]

theorem bytes_any (s : ByteArray) (v : Int) (t : ByteArray) (w : World) (h1 : s.size ≤ maxLen) (h2 : t.size ≤ maxLen) :
    Calls Trym.prog 7 #[.string s, .int .u64 v, .string t] w fun e w' => e = .returned (.bool (decide (s.size + t.size ≤ 1048576))) ∧ w' = w := by
  unfold maxLen at h1 h2
  go_enter Trym.func7, Trym.ntmps7
  go_wp2
  all_goals go_ret
  all_goals (refine ⟨?_, rfl⟩; first | exact ret_bool (decide_eq_true (by omega)).symm | exact ret_bool (decide_eq_false (by omega)).symm)

theorem has_any (x p : ByteArray) (w : World) (h1 : x.size ≤ 2000000) (h : p.size ≤ x.size) (he : ((x.extract 0 p.size).toList == p.toList) = true) :
    Calls Trym.prog 21 #[.string x, .string p] w fun e w' => e = .returned (.bool true) ∧ w' = w := by
  go_enter Trym.func21, Trym.ntmps21
  go_wp2
  go_ret
  exact ⟨rfl, rfl⟩

theorem cut_any (x p s : ByteArray) (w : World) (h1 : x.size ≤ 2000000) (h : p.size ≤ x.size) (he : ((x.extract 0 p.size).toList == p.toList) = true) (hs : x.extract p.size x.size = s) :
    Calls Trym.prog 19 #[.string x, .string p] w fun e w' => e = .returned (.tuple #[.string s, .bool true]) ∧ w' = w := by
  go_enter Trym.func19, Trym.ntmps19
  go_wp2_with (first | (go_at_call 21; refine (has_any _ _ _ h1 h he).mono ?_; rintro e w' ⟨rfl, rfl⟩) | go_in)
  go_ret2
  exact ⟨rfl, rfl⟩

def hexC (n : Int) : Bool := decide ((48 ≤ n ∧ n ≤ 57) ∨ (97 ≤ n ∧ n ≤ 102))
def hexS (l : List UInt8) : Bool := !l.isEmpty && l.all (fun c => hexC c.toNat)

theorem hex_step {s : ByteArray} {k : Nat} {hlt : k < s.size} (ha : ∀ j (hj : j < s.size), j < k → hexC s[j].toNat = true) (hx : hexC s[k].toNat = true) : ∀ j (hj : j < s.size), j < k + 1 → hexC s[j].toNat = true := by
  intro j hj h
  by_cases e : j = k
  · subst e; exact hx
  · exact ha j hj (by omega)
theorem hexS_bad {s : ByteArray} {k : Nat} (hk : k < s.size) (h : hexC s[k].toNat = false) : hexS s.data.toList = false := by
  have hm : s[k] ∈ s.data.toList := by
    rw [Array.mem_toList_iff]; exact Array.getElem_mem (xs := s.data) hk
  unfold hexS
  rw [List.all_eq_false.2 ⟨_, hm, by simp [h]⟩]
  simp
theorem hexS_good {s : ByteArray} {k : Nat} (hk : s.size ≤ k) (hp : 0 < s.size) (h : ∀ j (hj : j < s.size), j < k → hexC s[j].toNat = true) : hexS s.data.toList = true := by
  unfold hexS
  rw [Bool.and_eq_true]
  refine ⟨by cases hl : s.data.toList with
    | nil => have e : s.data.toList.length = s.size := by rw [Array.length_toList]; rfl
             rw [hl, List.length_nil] at e; omega
    | cons => rfl, ?_⟩
  rw [List.all_eq_true]
  intro c hc
  rw [Array.mem_toList_iff] at hc
  obtain ⟨j, hj, rfl⟩ := Array.getElem_of_mem hc
  have hj' : j < s.size := hj
  exact h j hj' (by omega)

theorem cand_empty (x p : ByteArray) (w : World) (h1 : x.size ≤ 2000000) (h : p.size ≤ x.size) (he : ((x.extract 0 p.size).toList == p.toList) = true) (hs : x.extract p.size x.size = ByteArray.empty) :
    Calls Trym.prog 17 #[.string p, .string x] w fun e w' => e = .returned (.bool false) ∧ w' = w := by
  go_enter Trym.func17, Trym.ntmps17
  go_wp2_with (go_at_call 19; refine (cut_any _ _ _ _ h1 h he hs).mono ?_; rintro e w' ⟨rfl, rfl⟩)
  go_ret
  exact ⟨rfl, rfl⟩

theorem cand_some (x p s : ByteArray) (w : World) (h1 : x.size ≤ 2000000) (h : p.size ≤ x.size) (he : ((x.extract 0 p.size).toList == p.toList) = true) (hs : x.extract p.size x.size = s) (hne : s.toList.isEmpty = false) (hp : 0 < s.size) (hsz : s.size ≤ 2000000) :
    Calls Trym.prog 17 #[.string p, .string x] w fun e w' => e = .returned (.bool (hexS s.data.toList)) ∧ w' = w := by
  go_enter Trym.func17, Trym.ntmps17
  go_wp2_with (go_at_call 19; refine (cut_any _ _ _ _ h1 h he hs).mono ?_; rintro e w' ⟨rfl, rfl⟩)
  go_loop [7] (fun i => ∃ k : Nat, k ≤ s.size ∧ i = .int .i64 k ∧ ∀ j (hj : j < s.size), j < k → hexC s[j].toNat = true) (fun i => s.size - (intOf i).toNat)
  case atStart => exact ⟨0, Nat.zero_le _, rfl, fun _ _ h => absurd h (by omega)⟩
  case round =>
    obtain ⟨k, hk, rfl, hall⟩ := hrel
    have HA : Hid (∀ j (hj : j < s.size), j < k → hexC s[j].toNat = true) := hall
    clear hall
    by_cases hlt : k < s.size
    · go_wp2
      all_goals first
        | (have hx : hexC s[k].toNat = true := by (simp only [hexC, decide_eq_true_eq]; omega)
           go_round
           case rel => exact ⟨k + 1, by omega, by go_num, hex_step HA.out hx⟩
           case measure => simp [intOf]; omega)
        | (have hx : hexC s[k].toNat = false := by (simp only [hexC, decide_eq_false_iff_not]; omega)
           go_ret
           exact ⟨ret_bool (hexS_bad hlt hx).symm, rfl⟩)
    · go_wp2
      go_ret
      exact ⟨ret_bool (hexS_good (by omega) hp HA.out).symm, rfl⟩


theorem len34 : Trym.prog.arrayLen 34 = 16 := by kernel_rfl
theorem elem34 : Trym.prog.elem 34 = 5 := by kernel_rfl
theorem info5 : (Trym.prog.info? 5).map (fun i => (i.zero, i.size, i.bytes)) = some (some (.int .u8 0), 1, 1) := by kernel_rfl
theorem under34 : Trym.prog.underlying 34 = some (.array (Trym.prog.arrayLen 34) (Trym.prog.elem 34)) := by kernel_rfl
theorem slice_low (B q : Nat) (hq : q < 16) (w : World) : (Instr.sliceAt 34 (.pointer (some ⟨B, 0, none⟩)) (some (.int .i64 (q : Int))) none none).run Trym.prog w = .ok (.slice (some ⟨B, q, none⟩) (16 - q) (16 - q)) w := by
  obtain ⟨i0, hi, hz0, hz1, hz2⟩ := info_parts info5
  rw [run_sliceAt_array_l w 34 ⟨B, 0, none⟩ under34 .i64 q (by omega) (by rw [len34]; omega)]
  rw [len34, elem34]
  have hne : ¬ 16 = q := by omega
  simp [sizeOf, typeInfo, hi, hz1, slicedAt, hne, Addr.add]
  omega

def lits : ByteArray := { data := #[48, 49, 50, 51, 52, 53, 54, 55, 56, 57, 97, 98, 99, 100, 101, 102] }
theorem lits_hex : ∀ i, (hi : i < 16) → hexC ((lits[i]'hi).toNat : Int) = true := by decide
/-- The row's cells from 'k' on are bytes of lower-case hexadecimal. -/
def Tail (C : Array Value) (k : Nat) : Prop := C.size = 16 ∧ ∀ j, k ≤ j → j < 16 → ∃ c : UInt8, C[j]? = some (.int .u8 c.toNat) ∧ hexC c.toNat = true

theorem tail_step {C : Array Value} {q m : Nat} (hq : q + 1 ≤ 16) (h : Tail C (q + 1)) (hm : m % 16 < 16) : Tail (C.setIfInBounds q (.int .u8 ((lits[m % 16]'hm).toNat : Int))) q := by
  refine ⟨by simpa using h.1, fun j h1 h2 => ?_⟩
  have hs := h.1
  by_cases e : j = q
  · subst e
    exact ⟨_, by rw [Array.getElem?_setIfInBounds_self_of_lt (by omega)], lits_hex _ hm⟩
  · rw [Array.getElem?_setIfInBounds_ne (by omega)]
    exact h.2 j (by omega) h2

theorem tail_list {C : Array Value} : ∀ (n q : Nat), q + n = 16 → Tail C q → ∃ l : List UInt8, l.length = n ∧ (∀ j (hj : j < l.length), C[q + j]? = some (.int .u8 (l[j].toNat : Int))) ∧ l.all (fun c => hexC c.toNat) = true
  | 0, q, _, _ => ⟨[], rfl, fun j hj => absurd hj (by simp), rfl⟩
  | n + 1, q, hq, h => by
    obtain ⟨c, hc, hx⟩ := h.2 q (by omega) (by omega)
    obtain ⟨l, hl, hcl, ha⟩ := tail_list n (q + 1) (by omega) ⟨h.1, fun j h1 h2 => h.2 j (by omega) h2⟩
    refine ⟨c :: l, by simp [hl], fun j hj => ?_, by simp [hx] at ha ⊢; exact ha⟩
    cases j with
    | zero => simpa using hc
    | succ j =>
      have := hcl j (by simpa using hj)
      simp only [List.getElem_cons_succ]
      rw [← this]
      congr 1
      omega

theorem pow_step {m q : Nat} (h : m < 16 ^ (q + 1)) : m / 16 < 16 ^ q := by
  rw [Nat.pow_succ] at h
  exact Nat.div_lt_of_lt_mul (by omega)

theorem pow_pos' {m q : Nat} (h : 16 ≤ m) (h2 : m / 16 < 16 ^ q) : 1 ≤ q := by
  cases q with
  | zero => simp at h2; omega
  | succ q => omega

theorem low_any (n : Nat) (w : World) (hn : n ≤ 18446744073709551615) :
    Calls Trym.prog 8 #[.int .u64 n] w fun e w' => ∃ h : ByteArray, e = .returned (.string h) ∧ hexS h.data.toList = true ∧ h.size ≤ 16 ∧ Below w.heap.size w w' := by
  have HV : Hid (n < 16 ^ 16) := by unfold Hid; omega
  go_enter Trym.func8, Trym.ntmps8
  go_wp2
  go_loopw [0, 4] (fun v i wr => ∃ m k : Nat, v = .int .u64 m ∧ i = .int .i64 k ∧ 1 ≤ k ∧ k ≤ 16 ∧ m ≤ 18446744073709551615 ∧ Hid (m < 16 ^ k) ∧ ∃ C, wr = w.alloc (.cells C 34) ∧ Tail C k) (fun _ i _ => (intOf i).toNat)
  case atStart => exact ⟨n, 16, rfl, rfl, by omega, by omega, hn, HV, _, rfl, rfl, fun j h1 h2 => absurd h1 (by omega)⟩
  case round =>
    obtain ⟨m, k, rfl, rfl, hk1, hk2, hm64, hm, C, rfl, hC⟩ := hrel
    obtain ⟨q, rfl⟩ : ∃ q, k = q + 1 := ⟨k - 1, by omega⟩
    obtain ⟨c0, hc0⟩ : ∃ c0, C[q]? = some c0 := ⟨_, Array.getElem?_eq_getElem (by have := hC.1; omega)⟩
    have HC := tail_step hk2 hC (m := m) (Nat.mod_lt _ (by omega))
    by_cases hz : m < 16
    · have hz0 : ((m : Int) / 16 == 0) = true := by simp; omega
      have hsl := slice_low w.heap.size q (by omega)
      obtain ⟨l, hl, hcl, hal⟩ := tail_list (16 - q) q (by omega) HC
      have hcv := run_convert_bytes_back (P := Trym.prog) (w.alloc (.cells (C.setIfInBounds q (.int .u8 ((lits[m % 16]'(Nat.mod_lt _ (by omega))).toNat : Int))) 34)) 35 9 5 ⟨w.heap.size, q, none⟩ (16 - q) l Trym.underlying35 Trym.underlying5 Trym.underlying9
        (fun j hj => by rw [Addr.add_lit, World.cell?_alloc_mark]; exact hcl j hj)
      rw [hl] at hcv
      have HL : Hid (hexS l = true) := by unfold Hid; unfold hexS; rw [hal]; cases l with
        | nil => simp at hl; omega
        | cons => rfl
      clear hcl hal HC hC
      have HLL : Hid (l.length = 16 - q) := hl
      clear hl
      unfold lits at hcv
      go_wp2
      go_ret
      exact ⟨_, rfl, HL.out, by have := HLL.out; simp [ByteArray.size]; omega, (Below.refl _ _).alloc (Nat.le_refl _) _⟩
    · have hz0 : ((m : Int) / 16 == 0) = false := by simp; omega
      have H2 : Hid (Tail (C.setIfInBounds q (.int .u8 ((lits[m % 16]'(Nat.mod_lt _ (by omega))).toNat : Int))) q) := HC
      clear HC hC
      go_wp2
      go_roundw
      case rel => exact ⟨m / 16, q, by go_num, rfl, pow_pos' (by omega) (pow_step hm.out), by omega, by omega, pow_step hm.out, _, rfl, H2.out⟩
      case measure => simp [intOf]

def up (c : UInt8) : UInt8 := if hexC c.toNat = true ∧ 97 ≤ c.toNat then UInt8.ofNat (c.toNat - 32) else c
def upS (s : ByteArray) : ByteArray := ⟨(s.data.toList.map up).toArray⟩
/-- The row behind '[]byte(s)', its first 'k' bytes turned. -/
def Turned (s : ByteArray) (C : Array Value) (k : Nat) : Prop := s.size ≤ C.size ∧ ∀ j (hj : j < s.size), C[j]? = some (.int .u8 ((if j < k then up s[j] else s[j]).toNat : Int))

theorem bytes_row (s : ByteArray) (w : World) : ∃ cap C, (convert 9 35 (.string s)).run Trym.prog w = .ok (.slice (some ⟨w.heap.size, 0, none⟩) s.size cap) (w.drew.alloc (.cells C 5 (C.size, C.size + 1))) ∧ Turned s C 0 := by
  refine ⟨_, _, run_bytes_of_string (P := Trym.prog) w 9 35 5 s Trym.underlying9 Trym.underlying35 Trym.underlying5, ?_, ?_⟩
  · simp only [bytesRow, Array.size_append, Array.size_map]; show s.data.size ≤ _; omega
  · intro j hj
    exact bytesRow_at s _ j hj

theorem up_val {c : UInt8} (h1 : 97 ≤ (c.toNat : Int)) (h2 : (c.toNat : Int) ≤ 102) : ((up c).toNat : Int) = (c.toNat : Int) - 97 + 65 := by
  have : up c = UInt8.ofNat (c.toNat - 32) := if_pos ⟨by unfold hexC; simp; omega, by omega⟩
  rw [this, UInt8.toNat_ofNat']
  omega
theorem up_id {c : UInt8} (h : ¬ (97 ≤ (c.toNat : Int) ∧ (c.toNat : Int) ≤ 102)) : up c = c := if_neg (by unfold hexC; simp; omega)

theorem turned_set {s : ByteArray} {C : Array Value} {k : Nat} (hk : k < s.size) (h : Turned s C k) (h1 : 97 ≤ (s[k].toNat : Int)) (h2 : (s[k].toNat : Int) ≤ 102) : Turned s (C.setIfInBounds k (.int .u8 ((s[k].toNat : Int) - 97 + 65))) (k + 1) := by
  refine ⟨by simpa using h.1, fun j hj => ?_⟩
  have hs := h.1
  by_cases e : j = k
  · subst e
    rw [Array.getElem?_setIfInBounds_self_of_lt (by omega), if_pos (by omega), up_val h1 h2]
  · rw [Array.getElem?_setIfInBounds_ne (by omega), h.2 j hj]
    by_cases hjk : j < k
    · rw [if_pos hjk, if_pos (by omega)]
    · rw [if_neg hjk, if_neg (by omega)]

theorem turned_skip {s : ByteArray} {C : Array Value} {k : Nat} (hk : k < s.size) (h : Turned s C k) (h1 : ¬ (97 ≤ (s[k].toNat : Int) ∧ (s[k].toNat : Int) ≤ 102)) : Turned s C (k + 1) := by
  refine ⟨h.1, fun j hj => ?_⟩
  rw [h.2 j hj]
  by_cases e : j = k
  · subst e; rw [if_neg (by omega), if_pos (by omega), up_id h1]
  · by_cases hjk : j < k
    · rw [if_pos hjk, if_pos (by omega)]
    · rw [if_neg hjk, if_neg (by omega)]

/-- The call's own row, with the mark behind it. -/
structure Own (s : ByteArray) (w wr : World) (N k : Nat) : Prop where
  below : Below w.heap.size w wr
  row : ∃ C, wr.heap[w.heap.size]? = some (.cells C 5 (N, N + 1)) ∧ C.size = N ∧ Turned s C k

theorem setRow_marked (w : World) (g i : Nat) (cs : Array Value) (t : TypeId) (fr : Nat × Nat) (v : Value) (hg : w.heap[g]? = some (.cells cs t fr)) :
    (w.setCell ⟨g, i, none⟩ v).heap[g]? = some (.cells (cs.setIfInBounds i v) t fr) := by
  rw [setCell_eq_setRow w g i cs t fr v hg]
  exact setRow_heap w g cs _ t _ hg

theorem Own.cell {s : ByteArray} {w wr : World} {N k : Nat} (h : Own s w wr N k) (hk : k < s.size) : wr.cell? ⟨w.heap.size, k, none⟩ = some (.int .u8 (s[k].toNat : Int)) := by
  obtain ⟨C, h1, h2, h3⟩ := h.row
  rw [cell_of_row wr _ _ C 5 _ h1]
  have := h3.2 k hk
  rwa [if_neg (by omega)] at this

theorem Own.free {s : ByteArray} {w wr : World} {N k : Nat} (h : Own s w wr N k) (hk : k < s.size) : wr.frozen? ⟨w.heap.size, k, none⟩ = false := by
  obtain ⟨C, h1, h2, h3⟩ := h.row
  have := h3.1
  unfold World.frozen?
  simp only [h1, Bool.and_eq_false_iff, decide_eq_false_iff_not]
  omega

theorem Own.set {s : ByteArray} {w wr : World} {N k : Nat} (h : Own s w wr N k) (hk : k < s.size) (h1 : 97 ≤ (s[k].toNat : Int)) (h2 : (s[k].toNat : Int) ≤ 102) :
    Own s w (wr.setCell ⟨w.heap.size, k, none⟩ (.int .u8 ((s[k].toNat : Int) - 97 + 65))) N (k + 1) := by
  obtain ⟨C, g1, g2, g3⟩ := h.row
  exact ⟨h.below.setCell (Nat.le_refl _) _, _, setRow_marked wr _ _ C 5 _ _ g1, by simpa using g2, turned_set hk g3 h1 h2⟩

theorem Own.skip {s : ByteArray} {w wr : World} {N k : Nat} (h : Own s w wr N k) (hk : k < s.size) (h1 : ¬ (97 ≤ (s[k].toNat : Int) ∧ (s[k].toNat : Int) ≤ 102)) : Own s w wr N (k + 1) := by
  obtain ⟨C, g1, g2, g3⟩ := h.row
  exact ⟨h.below, C, g1, g2, turned_skip hk g3 h1⟩

theorem Own.back {s : ByteArray} {w wr : World} {N : Nat} (h : Own s w wr N s.size) (cap : Nat) : (convert 35 9 (.slice (some ⟨w.heap.size, 0, none⟩) s.size cap)).run Trym.prog wr = .ok (.string (upS s)) wr := by
  obtain ⟨C, h1, h2, h3⟩ := h.row
  have hl : (s.data.toList.map up).length = s.size := by rw [List.length_map, Array.length_toList]; rfl
  have hcv := run_convert_bytes_back (P := Trym.prog) wr 35 9 5 ⟨w.heap.size, 0, none⟩ cap (s.data.toList.map up) Trym.underlying35 Trym.underlying5 Trym.underlying9
    (fun j hj => by
      rw [hl] at hj
      rw [Addr.add_lit, Nat.zero_add, cell_of_row wr _ _ C 5 _ h1, h3.2 j hj, if_pos hj]
      simp only [List.getElem_map, Array.getElem_toList]
      rfl)
  rw [hl] at hcv
  exact hcv

theorem up_any (s : ByteArray) (w : World) (hs : s.size ≤ 16) :
    Calls Trym.prog 10 #[.string s] w fun e w' => e = .returned (.string (upS s)) ∧ Below w.heap.size w w' := by
  obtain ⟨cap, C0, hconv, hT⟩ := bytes_row s w
  have HO : Own s w (w.alloc (.cells C0 5 (C0.size, C0.size + 1))).drew C0.size 0 := ⟨((Below.refl _ _).alloc (Nat.le_refl _) _).drew, C0, heap_alloc_new _ _, rfl, hT⟩
  clear hT
  go_enter Trym.func10, Trym.ntmps10
  go_wp2
  go_loopw [4] (fun i wr => ∃ k : Nat, k ≤ s.size ∧ i = .int .i64 k ∧ Own s w wr C0.size k) (fun i _ => s.size - (intOf i).toNat)
  case atStart => exact ⟨0, Nat.zero_le _, rfl, HO⟩
  case round =>
    obtain ⟨k, hk, rfl, ho⟩ := hrel
    clear hconv HO
    by_cases hlt : k < s.size
    · have hck := ho.cell hlt
      have hfz := ho.free hlt
      by_cases h1 : 97 ≤ (s[k].toNat : Int)
      · by_cases h2 : (s[k].toNat : Int) ≤ 102
        · go_wp2
          go_roundw
          case rel => exact ⟨k + 1, by omega, by go_num, ho.set hlt h1 h2⟩
          case measure => simp [intOf]; omega
        · go_wp2
          go_roundw
          case rel => exact ⟨k + 1, by omega, by go_num, ho.skip hlt (by omega)⟩
          case measure => simp [intOf]; omega
      · go_wp2
        go_roundw
        case rel => exact ⟨k + 1, by omega, by go_num, ho.skip hlt (by omega)⟩
        case measure => simp [intOf]; omega
    · obtain rfl : k = s.size := by omega
      have hcv := ho.back cap
      go_wp2
      go_ret
      exact ⟨rfl, ho.below⟩

theorem empty_of_size {s : ByteArray} (h : ¬ 0 < s.size) : s = ByteArray.empty := by
  apply ByteArray.ext
  apply Array.eq_empty_of_size_eq_zero
  have : s.data.size = s.size := rfl
  omega

theorem toList_data (s : ByteArray) : s.toList = s.data.toList := ByteArray.toList_eq s

theorem cand_at (x p s : ByteArray) (w : World) (hx : x = p ++ s) (h1 : x.size ≤ 2000000) :
    Calls Trym.prog 17 #[.string p, .string x] w fun e w' => e = .returned (.bool (hexS s.data.toList)) ∧ w' = w := by
  have hz : x.size = p.size + s.size := by rw [hx, ByteArray.size_append]
  have he : ((x.extract 0 p.size).toList == p.toList) = true := by rw [hx, ByteArray.extract_append_eq_left rfl]; simp
  have hs : x.extract p.size x.size = s := by rw [hz, hx]; exact ByteArray.extract_append_eq_right rfl rfl
  by_cases hp : 0 < s.size
  · refine cand_some x p s w h1 (by omega) he hs ?_ hp (by omega)
    rw [toList_data]
    have e : s.data.toList.length = s.size := by rw [Array.length_toList]; rfl
    cases hl : s.data.toList with
    | nil => rw [hl, List.length_nil] at e; omega
    | cons => rfl
  · obtain rfl := empty_of_size hp
    exact cand_empty x p w h1 (by omega) he hs

theorem cand_wrap (x p : ByteArray) (b : Bool) (w : World) (h : ∀ w, Calls Trym.prog 17 #[.string p, .string x] w fun e w' => e = .returned (.bool b) ∧ w' = w) :
    Calls Trym.prog 9 #[.string p, .string x] w fun e w' => e = .returned (.bool b) ∧ w' = w := by
  have H : Hid (∀ w, Calls Trym.prog 17 #[.string p, .string x] w fun e w' => e = .returned (.bool b) ∧ w' = w) := h
  clear h
  go_enter Trym.func9, Trym.ntmps9
  go_wp2_with (go_at_call 17; refine (H.out _).mono ?_; rintro e w' ⟨rfl, rfl⟩)
  go_ret
  exact ⟨rfl, rfl⟩

theorem cand_is (x p s : ByteArray) (b : Bool) (w : World) (hx : x = p ++ s) (h1 : x.size ≤ 2000000) (hb : hexS s.data.toList = b) :
    Calls Trym.prog 9 #[.string p, .string x] w fun e w' => e = .returned (.bool b) ∧ w' = w :=
  cand_wrap x p b w (fun w => by rw [← hb]; exact cand_at x p s w hx h1)

/-! ### The plain laws -/
theorem hexS_false_of {l : List UInt8} {c : UInt8} (hm : c ∈ l) (h : hexC c.toNat = false) : hexS l = false := by
  unfold hexS
  rw [List.all_eq_false.2 ⟨_, hm, by simp [h]⟩]
  simp

theorem hexS_empty : hexS (ByteArray.empty).data.toList = false := rfl

theorem hexS_slash (h t : ByteArray) : hexS (h ++ { data := #[47] } ++ t).data.toList = false :=
  hexS_false_of (c := 47) (by simp [ByteArray.data_append]) (by decide)

theorem up_bad {c : UInt8} (h : up c ≠ c) : hexC (up c).toNat = false := by
  by_cases hc : 97 ≤ (c.toNat : Int) ∧ (c.toNat : Int) ≤ 102
  · have := up_val hc.1 hc.2
    unfold hexC
    rw [this]
    simp
    omega
  · exact absurd (up_id hc) h

theorem map_ne : ∀ {l : List UInt8}, l.map up ≠ l → ∃ c ∈ l, up c ≠ c
  | [], h => absurd rfl h
  | c :: l, h => by
    by_cases e : up c = c
    · have h2 : l.map up ≠ l := fun e2 => h (by simp [e, e2])
      obtain ⟨d, hd, hn⟩ := map_ne h2
      exact ⟨d, by simp [hd], hn⟩
    · exact ⟨c, by simp, e⟩

theorem hexS_up {h : ByteArray} (hne : upS h ≠ h) : hexS (upS h).data.toList = false := by
  have hne2 : h.data.toList.map up ≠ h.data.toList := fun e => hne (by
    apply ByteArray.ext
    apply Array.toList_inj.1
    simpa [upS] using e)
  obtain ⟨c, hc, hn⟩ := map_ne hne2
  exact hexS_false_of (c := up c) (by simp only [upS]; exact List.mem_map_of_mem hc) (up_bad hn)

theorem upS_size (h : ByteArray) : (upS h).size = h.size := by
  show (h.data.toList.map up).toArray.size = h.data.size
  simp
end Go.Proofs.Qxb6603169aMods.keyWalks
