import Derived.Test.Qxb6603537aModsMariaWalks
namespace Go.Proofs.Qxb6603537aMods.mariaWalks
open Go.ChangeShapes Go.WideShapes Go.ChangeAt Go.RowKit
set_option linter.unusedVariables false

theorem colon_is (s : ByteArray) (b : Bool) (w : World) (hs : s.size ≤ 1048576) (h : hasC s.data.toList = b) : Hid (Calls Trym.prog 6 #[.string s] w fun e w' => e = .returned (.bool b) ∧ w' = w) := by
  rw [← h]; exact colon_any s w hs

theorem inj_out (u d u' d' : ByteArray) (w : World) (h1 : u.size ≤ maxLen) (h2 : d.size ≤ maxLen) (h3 : u'.size ≤ maxLen) (h4 : d'.size ≤ maxLen) (h : ¬ u.size + d.size + u'.size + d'.size ≤ 1048576) :
    Calls Trym.prog 4 #[.string u, .string d, .string u', .string d'] w fun e w' => e = .returned (.bool true) ∧ w' = w := by
  have hb := bytes4_any u d u' d' w h1 h2 h3 h4
  rw [decide_eq_false h] at hb
  have H : Hid (Calls Trym.prog 8 #[.string u, .string d, .string u', .string d'] w fun e w' => e = .returned (.bool false) ∧ w' = w) := hb
  clear hb
  go_enter Trym.func4, Trym.ntmps4
  go_wp2_with (go_at_call 8; refine H.out.mono ?_; rintro e w' ⟨rfl, hw⟩; obtain rfl : w = w' := hw.symm)
  go_ret
  exact ⟨rfl, rfl⟩

theorem bytes_in (u d u' d' : ByteArray) (w : World) (h1 : u.size ≤ maxLen) (h2 : d.size ≤ maxLen) (h3 : u'.size ≤ maxLen) (h4 : d'.size ≤ maxLen) (h : u.size + d.size + u'.size + d'.size ≤ 1048576) :
    Hid (Calls Trym.prog 8 #[.string u, .string d, .string u', .string d'] w fun e w' => e = .returned (.bool true) ∧ w' = w) := by
  have hb := bytes4_any u d u' d' w h1 h2 h3 h4
  rw [decide_eq_true h] at hb
  exact hb

theorem inj_e1 (u d u' d' : ByteArray) (w : World) (h1 : u.size ≤ maxLen) (h2 : d.size ≤ maxLen) (h3 : u'.size ≤ maxLen) (h4 : d'.size ≤ maxLen) (h : u.size + d.size + u'.size + d'.size ≤ 1048576) (hu : ((u.size : Int) == 0) = true) :
    Calls Trym.prog 4 #[.string u, .string d, .string u', .string d'] w fun e w' => e = .returned (.bool true) ∧ w' = w := by
  have H := bytes_in u d u' d' w h1 h2 h3 h4 h
  go_enter Trym.func4, Trym.ntmps4
  go_wp2_with (go_at_call 8; refine H.out.mono ?_; rintro e w' ⟨rfl, hw⟩; obtain rfl : w = w' := hw.symm)
  go_ret
  exact ⟨rfl, rfl⟩

theorem inj_e2 (u d u' d' : ByteArray) (w : World) (h1 : u.size ≤ maxLen) (h2 : d.size ≤ maxLen) (h3 : u'.size ≤ maxLen) (h4 : d'.size ≤ maxLen) (h : u.size + d.size + u'.size + d'.size ≤ 1048576) (hu : ((u.size : Int) == 0) = false) (hu' : ((u'.size : Int) == 0) = true) :
    Calls Trym.prog 4 #[.string u, .string d, .string u', .string d'] w fun e w' => e = .returned (.bool true) ∧ w' = w := by
  have H := bytes_in u d u' d' w h1 h2 h3 h4 h
  go_enter Trym.func4, Trym.ntmps4
  go_wp2_with (go_at_call 8; refine H.out.mono ?_; rintro e w' ⟨rfl, hw⟩; obtain rfl : w = w' := hw.symm)
  go_ret
  exact ⟨rfl, rfl⟩

theorem inj_c1 (u d u' d' : ByteArray) (w : World) (h1 : u.size ≤ maxLen) (h2 : d.size ≤ maxLen) (h3 : u'.size ≤ maxLen) (h4 : d'.size ≤ maxLen) (h : u.size + d.size + u'.size + d'.size ≤ 1048576) (hu : ((u.size : Int) == 0) = false) (hu' : ((u'.size : Int) == 0) = false) (hc : hasC u.data.toList = true) :
    Calls Trym.prog 4 #[.string u, .string d, .string u', .string d'] w fun e w' => e = .returned (.bool true) ∧ w' = w := by
  have H := bytes_in u d u' d' w h1 h2 h3 h4 h
  have C := colon_is u true w (by omega) hc
  clear hc
  go_enter Trym.func4, Trym.ntmps4
  go_wp2_with (go_at_call 8; refine H.out.mono ?_; rintro e w' ⟨rfl, hw⟩; obtain rfl : w = w' := hw.symm)
  refine C.out.mono ?_
  rintro e w' ⟨rfl, hw'⟩
  obtain rfl : w = w' := hw'.symm
  go_wp2_with fail
  go_ret
  exact ⟨rfl, rfl⟩

theorem inj_c2 (u d u' d' : ByteArray) (w : World) (h1 : u.size ≤ maxLen) (h2 : d.size ≤ maxLen) (h3 : u'.size ≤ maxLen) (h4 : d'.size ≤ maxLen) (h : u.size + d.size + u'.size + d'.size ≤ 1048576) (hu : ((u.size : Int) == 0) = false) (hu' : ((u'.size : Int) == 0) = false) (hc : hasC u.data.toList = false) (hc' : hasC u'.data.toList = true) :
    Calls Trym.prog 4 #[.string u, .string d, .string u', .string d'] w fun e w' => e = .returned (.bool true) ∧ w' = w := by
  have H := bytes_in u d u' d' w h1 h2 h3 h4 h
  have C := colon_is u false w (by omega) hc
  have C' := colon_is u' true w (by omega) hc'
  clear hc hc'
  go_enter Trym.func4, Trym.ntmps4
  go_wp2_with (go_at_call 8; refine H.out.mono ?_; rintro e w' ⟨rfl, hw⟩; obtain rfl : w = w' := hw.symm)
  refine C.out.mono ?_
  rintro e w' ⟨rfl, hw'⟩
  obtain rfl : w = w' := hw'.symm
  go_wp2_with fail
  refine C'.out.mono ?_
  rintro e w' ⟨rfl, hw'⟩
  obtain rfl : w = w' := hw'.symm
  go_wp2_with fail
  go_ret
  exact ⟨rfl, rfl⟩

theorem inj_in (u d u' d' : ByteArray) (w : World) (h1 : u.size ≤ maxLen) (h2 : d.size ≤ maxLen) (h3 : u'.size ≤ maxLen) (h4 : d'.size ≤ maxLen) (h : u.size + d.size + u'.size + d'.size ≤ 1048576) (hu : ((u.size : Int) == 0) = false) (hu' : ((u'.size : Int) == 0) = false) (hc : hasC u.data.toList = false) (hc' : hasC u'.data.toList = false) :
    Calls Trym.prog 4 #[.string u, .string d, .string u', .string d'] w fun e w' => e = .returned (.bool true) ∧ w' = w := by
  have H := bytes_in u d u' d' w h1 h2 h3 h4 h
  have C := colon_is u false w (by omega) hc
  have C' := colon_is u' false w (by omega) hc'
  have HC : Hid (hasC u.data.toList = false) := hc
  have HC' : Hid (hasC u'.data.toList = false) := hc'
  clear hc hc'
  have hp : 0 < u.size := by have := beq_eq_false_iff_ne.1 hu; omega
  have hp' : 0 < u'.size := by have := beq_eq_false_iff_ne.1 hu'; omega
  go_enter Trym.func4, Trym.ntmps4
  go_wp2_with (go_at_call 8; refine H.out.mono ?_; rintro e w' ⟨rfl, hw⟩; obtain rfl : w = w' := hw.symm)
  refine C.out.mono ?_
  rintro e w' ⟨rfl, hw'⟩
  obtain rfl : w = w' := hw'.symm
  go_wp2_with fail
  refine C'.out.mono ?_
  rintro e w' ⟨rfl, hw'⟩
  obtain rfl : w = w' := hw'.symm
  go_wp2_with fail
  refine (id_some u d w hp (by omega) (by omega)).mono ?_
  rintro e w' ⟨g, rfl, hg, hw'⟩
  obtain rfl : w = w' := hw'.symm
  go_wp2_with fail
  refine (id_some u' d' w hp' (by omega) (by omega)).mono ?_
  rintro e w' ⟨g', rfl, hg', hw'⟩
  obtain rfl : w = w' := hw'.symm
  by_cases eu : u = u'
  · have tu := beq_list_true eu
    by_cases ed : d = d'
    · have td := beq_list_true ed
      have tg : (g.toList == g'.toList) = true := beq_list_true (by rw [hg.out, hg'.out, eu, ed])
      clear eu ed
      go_wp2_with fail
      go_ret
      exact ⟨rfl, rfl⟩
    · have td := beq_list_false ed
      have tg : (g.toList == g'.toList) = false := beq_list_false fun e => ed (joined_inj hg.out hg'.out HC.out HC'.out e).2
      clear eu ed
      go_wp2_with fail
      go_ret
      exact ⟨rfl, rfl⟩
  · have tu := beq_list_false eu
    have tg : (g.toList == g'.toList) = false := beq_list_false fun e => eu (joined_inj hg.out hg'.out HC.out HC'.out e).1
    clear eu
    go_wp2_with fail
    go_ret
    exact ⟨rfl, rfl⟩

theorem inj_any (u d u' d' : ByteArray) (w : World) (h1 : u.size ≤ maxLen) (h2 : d.size ≤ maxLen) (h3 : u'.size ≤ maxLen) (h4 : d'.size ≤ maxLen) :
    Calls Trym.prog 4 #[.string u, .string d, .string u', .string d'] w fun e w' => e = .returned (.bool true) ∧ w' = w := by
  by_cases h : u.size + d.size + u'.size + d'.size ≤ 1048576
  · cases hu : ((u.size : Int) == 0) with
    | true => exact inj_e1 u d u' d' w h1 h2 h3 h4 h hu
    | false =>
      cases hu' : ((u'.size : Int) == 0) with
      | true => exact inj_e2 u d u' d' w h1 h2 h3 h4 h hu hu'
      | false =>
        cases hc : hasC u.data.toList with
        | true => exact inj_c1 u d u' d' w h1 h2 h3 h4 h hu hu' hc
        | false =>
          cases hc' : hasC u'.data.toList with
          | true => exact inj_c2 u d u' d' w h1 h2 h3 h4 h hu hu' hc hc'
          | false => exact inj_in u d u' d' w h1 h2 h3 h4 h hu hu' hc hc'
  · exact inj_out u d u' d' w h1 h2 h3 h4 h
end Go.Proofs.Qxb6603537aMods.mariaWalks
