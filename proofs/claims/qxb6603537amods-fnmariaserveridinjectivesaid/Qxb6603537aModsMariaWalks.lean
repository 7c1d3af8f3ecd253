import Derived.Test.Qxb6603537aModsRows
import Derived.WalkKit
import Derived.ProofKit
import Derived.OpenShut
import Derived.Below
import Derived.WalkSpells
import Derived.WalkLawsBesides
namespace Go.Proofs.Qxb6603537aMods.mariaWalks
open Go.ChangeShapes Go.WideShapes Go.ChangeAt Go.RowKit
set_option linter.unusedVariables false

theorem ret_bool {a b : Bool} (h : a = b) : Ending.returned (.bool a) = .returned (.bool b) := by rw [h]

theorem bytes2_any (s t : ByteArray) (w : World) (h1 : s.size ≤ maxLen) (h2 : t.size ≤ maxLen) :
    Calls Trym.prog 5 #[.string s, .string t] w fun e w' => e = .returned (.bool (decide (s.size + t.size ≤ 1048576))) ∧ w' = w := by
  unfold maxLen at h1 h2
  go_enter Trym.func5, Trym.ntmps5
  go_wp2
  all_goals go_ret
  all_goals (refine ⟨?_, rfl⟩; first | exact ret_bool (decide_eq_true (by omega)).symm | exact ret_bool (decide_eq_false (by omega)).symm)

theorem bytes4_any (s t u v : ByteArray) (w : World) (h1 : s.size ≤ maxLen) (h2 : t.size ≤ maxLen) (h3 : u.size ≤ maxLen) (h4 : v.size ≤ maxLen) :
    Calls Trym.prog 8 #[.string s, .string t, .string u, .string v] w fun e w' => e = .returned (.bool (decide (s.size + t.size + u.size + v.size ≤ 1048576))) ∧ w' = w := by
  unfold maxLen at h1 h2 h3 h4
  go_enter Trym.func8, Trym.ntmps8
  go_wp2
  all_goals go_ret
  all_goals (refine ⟨?_, rfl⟩; first | exact ret_bool (decide_eq_true (by omega)).symm | exact ret_bool (decide_eq_false (by omega)).symm)

/-- Does the text hold a colon? -/
def hasC (l : List UInt8) : Bool := l.any (fun c => c == 58)

theorem eq58 {c : UInt8} (h : (c.toNat : Int) = 58) : c = 58 := UInt8.toNat_inj.1 (by show c.toNat = 58; omega)
theorem hasC_hit {s : ByteArray} {k : Nat} (hk : k < s.size) (h : (s[k].toNat : Int) = 58) : hasC s.data.toList = true := by
  have hm : s[k] ∈ s.data.toList := by rw [Array.mem_toList_iff]; exact Array.getElem_mem (xs := s.data) hk
  exact List.any_eq_true.2 ⟨_, hm, by rw [eq58 h]; rfl⟩
theorem hasC_no {s : ByteArray} {k : Nat} (hk : s.size ≤ k) (h : ∀ j (hj : j < s.size), j < k → ¬ (s[j].toNat : Int) = 58) : hasC s.data.toList = false := by
  unfold hasC
  rw [List.any_eq_false]
  intro c hc
  rw [Array.mem_toList_iff] at hc
  obtain ⟨j, hj, rfl⟩ := Array.getElem_of_mem hc
  have hj' : j < s.size := hj
  have := h j hj' (by omega)
  intro e
  exact this (by rw [show s[j] = s.data[j] from rfl, eq_of_beq e]; rfl)
theorem no_step {s : ByteArray} {k : Nat} {hlt : k < s.size} (ha : ∀ j (hj : j < s.size), j < k → ¬ (s[j].toNat : Int) = 58) (hx : ¬ (s[k].toNat : Int) = 58) : ∀ j (hj : j < s.size), j < k + 1 → ¬ (s[j].toNat : Int) = 58 := by
  intro j hj h
  by_cases e : j = k
  · subst e; exact hx
  · exact ha j hj (by omega)

theorem colon_any (s : ByteArray) (w : World) (hs : s.size ≤ 1048576) :
    Calls Trym.prog 6 #[.string s] w fun e w' => e = .returned (.bool (hasC s.data.toList)) ∧ w' = w := by
  go_enter Trym.func6, Trym.ntmps6
  go_wp2
  go_loop [3] (fun i => ∃ k : Nat, k ≤ s.size ∧ i = .int .i64 k ∧ Hid (∀ j (hj : j < s.size), j < k → ¬ (s[j].toNat : Int) = 58)) (fun i => s.size - (intOf i).toNat)
  case atStart => exact ⟨0, Nat.zero_le _, rfl, fun _ _ h => absurd h (by omega)⟩
  case round =>
    obtain ⟨k, hk, rfl, HA⟩ := hrel
    by_cases hlt : k < s.size
    · by_cases h58 : (s[k].toNat : Int) = 58
      · have ht : ((s[k].toNat : Int) == 58) = true := by simpa using h58
        have H58 : Hid ((s[k].toNat : Int) = 58) := h58
        clear h58
        go_wp2
        go_ret
        exact ⟨ret_bool (hasC_hit hlt H58.out).symm, rfl⟩
      · have ht : ((s[k].toNat : Int) == 58) = false := by simpa using h58
        have H58 : Hid (¬ (s[k].toNat : Int) = 58) := h58
        clear h58
        go_wp2
        go_round
        case rel => exact ⟨k + 1, by omega, by go_num, no_step HA.out H58.out⟩
        case measure => simp [intOf]; omega
    · go_wp2
      go_ret
      exact ⟨ret_bool (hasC_no (by omega) HA.out).symm, rfl⟩

theorem nonempty_list {s : ByteArray} (h : 0 < s.size) : s.toList.isEmpty = false := by
  rw [ByteArray.toList_eq]
  have e : s.data.toList.length = s.size := by rw [Array.length_toList]; rfl
  cases hl : s.data.toList with
  | nil => rw [hl, List.length_nil] at e; omega
  | cons => rfl
theorem empty_of_size {s : ByteArray} (h : ¬ 0 < s.size) : s = ByteArray.empty := by
  apply ByteArray.ext
  apply Array.eq_empty_of_size_eq_zero
  have : s.data.size = s.size := rfl
  omega

theorem id_empty (d : ByteArray) (w : World) : Calls Trym.prog 7 #[.string ByteArray.empty, .string d] w fun e w' => e = .returned (.string ByteArray.empty) ∧ w' = w := by
  go_enter Trym.func7, Trym.ntmps7
  go_wp2
  go_ret
  exact ⟨rfl, rfl⟩

theorem id_some (u d : ByteArray) (w : World) (hu : 0 < u.size) (h1 : u.size ≤ 1048576) (h2 : d.size ≤ 1048576) :
    Calls Trym.prog 7 #[.string u, .string d] w fun e w' => ∃ g, e = .returned (.string g) ∧ Hid (g = u ++ { data := #[58] } ++ d) ∧ w' = w := by
  have hne := nonempty_list hu
  go_enter Trym.func7, Trym.ntmps7
  go_wp2
  go_ret
  exact ⟨_, rfl, rfl, rfl⟩

/-! ### The plain laws -/
theorem joined_list {g u d : ByteArray} (h : g = u ++ { data := #[58] } ++ d) : g.data.toList = u.data.toList ++ 58 :: d.data.toList := by
  rw [h, ByteArray.data_append, ByteArray.data_append]; simp
theorem joined_size {g u d : ByteArray} (h : g = u ++ { data := #[58] } ++ d) : g.size = u.size + 1 + d.size := by
  rw [h, ByteArray.size_append, ByteArray.size_append]; rfl
theorem get_list (s : ByteArray) (k : Nat) (hk : k < s.size) : s.data.toList[k]? = some s[k] := by
  rw [Array.getElem?_toList, Array.getElem?_eq_getElem hk]; rfl
theorem joined_before {g u d : ByteArray} (h : g = u ++ { data := #[58] } ++ d) {k : Nat} (hk : k < u.size) (hg : k < g.size) : g[k] = u[k] := by
  have e := get_list g k hg
  rw [joined_list h, List.getElem?_append_left (by rw [Array.length_toList]; exact hk), get_list u k hk] at e
  exact (Option.some.inj e).symm
theorem joined_at {g u d : ByteArray} (h : g = u ++ { data := #[58] } ++ d) (hg : u.size < g.size) : g[u.size] = 58 := by
  have e := get_list g u.size hg
  rw [joined_list h, List.getElem?_append_right (by rw [Array.length_toList]; exact Nat.le_refl _), Array.length_toList] at e
  simpa [show u.data.size = u.size from rfl] using e.symm
theorem joined_left {g u d : ByteArray} (h : g = u ++ { data := #[58] } ++ d) : g.extract 0 u.size = u := by
  rw [h, ByteArray.append_assoc]; exact ByteArray.extract_append_eq_left rfl
theorem joined_right {g u d : ByteArray} (h : g = u ++ { data := #[58] } ++ d) : g.extract (u.size + 1) g.size = d := by
  rw [joined_size h, h]; exact ByteArray.extract_append_eq_right (by rw [ByteArray.size_append]; rfl) (by rw [ByteArray.size_append]; rfl)
theorem no_colon {u : ByteArray} (h : hasC u.data.toList = false) {k : Nat} (hk : k < u.size) : ¬ (u[k].toNat : Int) = 58 := fun e => by
  rw [hasC_hit hk e] at h; cases h

theorem split_inj : ∀ {l l' m m' : List UInt8}, hasC l = false → hasC l' = false → l ++ 58 :: m = l' ++ 58 :: m' → l = l' ∧ m = m'
  | [], [], _, _, _, _, h => ⟨rfl, by simpa using h⟩
  | [], c :: l', _, _, _, h2, h => by
    simp at h
    rw [← h.1] at h2
    simp [hasC] at h2
  | c :: l, [], _, _, h1, _, h => by
    simp at h
    rw [h.1] at h1
    simp [hasC] at h1
  | c :: l, c' :: l', _, _, h1, h2, h => by
    simp at h
    have h1' : hasC l = false := by simp only [hasC, List.any_cons, Bool.or_eq_false_iff] at h1 ⊢; exact h1.2
    have h2' : hasC l' = false := by simp only [hasC, List.any_cons, Bool.or_eq_false_iff] at h2 ⊢; exact h2.2
    obtain ⟨e1, e2⟩ := split_inj h1' h2' h.2
    exact ⟨by rw [h.1, e1], e2⟩

theorem list_eq {a b : ByteArray} (h : a.data.toList = b.data.toList) : a = b := ByteArray.ext (Array.toList_inj.1 h)
theorem beq_list_true {a b : ByteArray} (h : a = b) : (a.toList == b.toList) = true := by rw [h]; simp
theorem beq_list_false {a b : ByteArray} (h : ¬ a = b) : (a.toList == b.toList) = false := by
  rw [beq_eq_false_iff_ne, ByteArray.toList_eq, ByteArray.toList_eq]
  exact fun e => h (list_eq e)

theorem joined_inj {g g' u u' d d' : ByteArray} (h : g = u ++ { data := #[58] } ++ d) (h' : g' = u' ++ { data := #[58] } ++ d') (c : hasC u.data.toList = false) (c' : hasC u'.data.toList = false) (e : g = g') : u = u' ∧ d = d' := by
  have e2 : g.data.toList = g'.data.toList := by rw [e]
  rw [joined_list h, joined_list h'] at e2
  obtain ⟨e3, e4⟩ := split_inj c c' e2
  exact ⟨list_eq e3, list_eq e4⟩

/-! ### The first law's walk -/
theorem split_out (u d : ByteArray) (w : World) (h1 : u.size ≤ maxLen) (h2 : d.size ≤ maxLen) (h : ¬ u.size + d.size ≤ 1048576) :
    Calls Trym.prog 3 #[.string u, .string d] w fun e w' => e = .returned (.bool true) ∧ w' = w := by
  have hb := bytes2_any u d w h1 h2
  rw [decide_eq_false h] at hb
  have H : Hid (Calls Trym.prog 5 #[.string u, .string d] w fun e w' => e = .returned (.bool false) ∧ w' = w) := hb
  clear hb
  go_enter Trym.func3, Trym.ntmps3
  go_wp2_with (go_at_call 5; refine H.out.mono ?_; rintro e w' ⟨rfl, hw⟩; obtain rfl : w = w' := hw.symm)
  go_ret
  exact ⟨rfl, rfl⟩

theorem split_in (u d : ByteArray) (w : World) (h1 : u.size ≤ maxLen) (h2 : d.size ≤ maxLen) (h : u.size + d.size ≤ 1048576) :
    Calls Trym.prog 3 #[.string u, .string d] w fun e w' => e = .returned (.bool true) ∧ w' = w := by
  have hb := bytes2_any u d w h1 h2
  rw [decide_eq_true h] at hb
  have H : Hid (Calls Trym.prog 5 #[.string u, .string d] w fun e w' => e = .returned (.bool true) ∧ w' = w) := hb
  clear hb
  have hc := colon_any u w (by omega)
  cases hh : hasC u.data.toList with
  | true =>
    rw [hh] at hc
    have HC : Hid (Calls Trym.prog 6 #[.string u] w fun e w' => e = .returned (.bool true) ∧ w' = w) := hc
    clear hc hh
    go_enter Trym.func3, Trym.ntmps3
    go_wp2_with (first | (go_at_call 5; refine H.out.mono ?_; rintro e w' ⟨rfl, hw⟩; obtain rfl : w = w' := hw.symm) | (go_at_call 6; refine HC.out.mono ?_; rintro e w' ⟨rfl, hw⟩; obtain rfl : w = w' := hw.symm))
    go_ret
    exact ⟨rfl, rfl⟩
  | false =>
    rw [hh] at hc
    have HC : Hid (Calls Trym.prog 6 #[.string u] w fun e w' => e = .returned (.bool false) ∧ w' = w) := hc
    have HH : Hid (hasC u.data.toList = false) := hh
    clear hc hh
    by_cases hu : 0 < u.size
    · have hi := id_some u d w hu (by omega) (by omega)
      have HI : Hid (Calls Trym.prog 7 #[.string u, .string d] w fun e w' => ∃ g, e = .returned (.string g) ∧ Hid (g = u ++ { data := #[58] } ++ d) ∧ w' = w) := hi
      clear hi
      go_enter Trym.func3, Trym.ntmps3
      go_wp2_with (first | (go_at_call 5; refine H.out.mono ?_; rintro e w' ⟨rfl, hw⟩; obtain rfl : w = w' := hw.symm) | (go_at_call 6; refine HC.out.mono ?_; rintro e w' ⟨rfl, hw⟩; obtain rfl : w = w' := hw.symm))
      refine HI.out.mono ?_
      rintro e w' ⟨g, rfl, hg, hw'⟩
      obtain rfl : w = w' := hw'.symm
      have hz1 : u.size < g.size := by have := joined_size hg.out; omega
      have hz2 : g.size ≤ 1048577 := by have := joined_size hg.out; omega
      go_wp2_with fail
      go_loop [6] (fun i => ∃ k : Nat, k ≤ u.size ∧ i = .int .i64 k) (fun i => u.size - (intOf i).toNat)
      case atStart => exact ⟨0, Nat.zero_le _, rfl⟩
      case round =>
        obtain ⟨k, hk, rfl⟩ := hrel
        have hkg : k < g.size := by omega
        by_cases hlt : k < u.size
        · have ht : ((g[k].toNat : Int) != 58) = true := by rw [joined_before hg.out hlt hkg]; simpa using no_colon HH.out hlt
          go_wp2
          go_round
          case rel => exact ⟨k + 1, by omega, by go_num⟩
          case measure => simp [intOf]; omega
        · obtain rfl : k = u.size := by omega
          have ht : ((g[u.size].toNat : Int) != 58) = false := by rw [joined_at hg.out hkg]; rfl
          have hl : ((g.extract 0 u.size).toList == u.toList) = true := beq_list_true (joined_left hg.out)
          have hr : ((g.extract (u.size + 1) g.size).toList == d.toList) = true := beq_list_true (joined_right hg.out)
          go_wp2
          go_ret
          exact ⟨rfl, rfl⟩
    · obtain rfl := empty_of_size hu
      go_enter Trym.func3, Trym.ntmps3
      go_wp2_with (first | (go_at_call 5; refine H.out.mono ?_; rintro e w' ⟨rfl, hw⟩; obtain rfl : w = w' := hw.symm) | (go_at_call 6; refine HC.out.mono ?_; rintro e w' ⟨rfl, hw⟩; obtain rfl : w = w' := hw.symm))
      refine (id_empty d w).mono ?_
      rintro e w' ⟨rfl, hw'⟩
      obtain rfl : w = w' := hw'.symm
      go_wp2_with fail
      go_ret
      exact ⟨rfl, rfl⟩

theorem split_any (u d : ByteArray) (w : World) (h1 : u.size ≤ maxLen) (h2 : d.size ≤ maxLen) :
    Calls Trym.prog 3 #[.string u, .string d] w fun e w' => e = .returned (.bool true) ∧ w' = w := by
  by_cases h : u.size + d.size ≤ 1048576
  · exact split_in u d w h1 h2 h
  · exact split_out u d w h1 h2 h
end Go.Proofs.Qxb6603537aMods.mariaWalks
