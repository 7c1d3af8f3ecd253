import Derived.Test.Qxb6603402aModsRows
import Derived.WalkKit
import Derived.ProofKit
import Derived.OpenShut
import Derived.Below
import Derived.WalkSpells
import Derived.WalkLawsBesides
namespace Go.Proofs.Qxb6603402aMods.headerWalks
open Go.ChangeShapes Go.WideShapes Go.ChangeAt Go.RowKit
set_option linter.unusedVariables false

theorem ret_bool {a b : Bool} (h : a = b) : Ending.returned (.bool a) = .returned (.bool b) := by rw [h]

theorem bytes_any (s : ByteArray) (w : World) (h1 : s.size ≤ maxLen) :
    Calls Trym.prog 4 #[.string s] w fun e w' => e = .returned (.bool (decide (s.size ≤ 1048576))) ∧ w' = w := by
  unfold maxLen at h1
  go_enter Trym.func4, Trym.ntmps4
  go_wp2
  all_goals go_ret
  all_goals (refine ⟨?_, rfl⟩; first | exact ret_bool (decide_eq_true (by omega)).symm | exact ret_bool (decide_eq_false (by omega)).symm)

theorem ne_head {x : ByteArray} {c d : UInt8} {t l : List UInt8} (h : x.toList = c :: t) (hd : (c == d) = false) : (x.toList == d :: l) = false := by
  rw [h, beq_eq_false_iff_ne]
  intro e
  injection e with e1 e2
  subst e1
  simp at hd

theorem res_any (x : ByteArray) (c : UInt8) (b : Bool) (w : World) (hsz : x.size ≤ 2000000) (hp : 1 ≤ x.size) (t : List UInt8) (h : x.toList = c :: t)
    (h1 : (c == 99) = false) (h2 : (c == 116) = false) (h3 : (c == 103) = false) (hb : ((x.extract 0 1).toList == [58]) = b) :
    Calls Trym.prog 6 #[.string x] w fun e w' => e = .returned (.bool b) ∧ w' = w := by
  have n1 : (x.toList == [99, 111, 110, 116, 101, 110, 116, 45, 116, 121, 112, 101]) = false := ne_head h h1
  have n2 : (x.toList == [116, 101]) = false := ne_head h h2
  have n3 : (x.toList == [103, 114, 112, 99, 45, 116, 105, 109, 101, 111, 117, 116]) = false := ne_head h h3
  have n4 : (x.toList == [103, 114, 112, 99, 45, 101, 110, 99, 111, 100, 105, 110, 103]) = false := ne_head h h3
  have n5 : (x.toList == [103, 114, 112, 99, 45, 97, 99, 99, 101, 112, 116, 45, 101, 110, 99, 111, 100, 105, 110, 103]) = false := ne_head h h3
  have n6 : (x.toList == [103, 114, 112, 99, 45, 109, 101, 115, 115, 97, 103, 101]) = false := ne_head h h3
  have n7 : (x.toList == [103, 114, 112, 99, 45, 115, 116, 97, 116, 117, 115]) = false := ne_head h h3
  have n8 : (x.toList == [103, 114, 112, 99, 45, 115, 116, 97, 116, 117, 115, 45, 100, 101, 116, 97, 105, 108, 115, 45, 98, 105, 110]) = false := ne_head h h3
  have n9 : (x.toList == [103, 114, 112, 99, 45, 109, 101, 115, 115, 97, 103, 101, 45, 116, 121, 112, 101]) = false := ne_head h h3
  clear h h1 h2 h3
  go_enter Trym.func6, Trym.ntmps6
  go_wp2
  go_ret
  exact ⟨rfl, rfl⟩

theorem wrap_any (x : ByteArray) (b : Bool) (w : World) (h : ∀ w, Calls Trym.prog 6 #[.string x] w fun e w' => e = .returned (.bool b) ∧ w' = w) :
    Calls Trym.prog 5 #[.string x] w fun e w' => e = .returned (.bool b) ∧ w' = w := by
  have H : Hid (∀ w, Calls Trym.prog 6 #[.string x] w fun e w' => e = .returned (.bool b) ∧ w' = w) := h
  clear h
  go_enter Trym.func5, Trym.ntmps5
  go_wp2_with (go_at_call 6; refine (H.out _).mono ?_; rintro e w' ⟨rfl, rfl⟩)
  go_ret
  exact ⟨rfl, rfl⟩

theorem list_app (l : List UInt8) (s : ByteArray) : ((ByteArray.mk l.toArray) ++ s).toList = l ++ s.data.toList := by
  rw [ByteArray.toList_eq, ByteArray.data_append]; simp

theorem list_extract (x : ByteArray) (n : Nat) : (x.extract 0 n).toList = x.toList.take n := by
  rw [ByteArray.toList_eq, ByteArray.toList_eq, ByteArray.data_extract]; simp

theorem colon_is (s : ByteArray) (w : World) (hs : s.size ≤ 1048576) :
    Calls Trym.prog 5 #[.string ({ data := #[58] } ++ s)] w fun e w' => e = .returned (.bool true) ∧ w' = w := by
  have hl : (({ data := #[58] } : ByteArray) ++ s).toList = 58 :: s.data.toList := list_app [58] s
  have hz : (({ data := #[58] } : ByteArray) ++ s).size = 1 + s.size := by rw [ByteArray.size_append]; rfl
  refine wrap_any _ true w fun w => res_any _ 58 true w (by omega) (by omega) _ hl rfl rfl rfl ?_
  rw [list_extract, hl]; rfl

theorem x_is (s : ByteArray) (w : World) (hs : s.size ≤ 1048576) :
    Calls Trym.prog 5 #[.string ({ data := #[120, 45] } ++ s)] w fun e w' => e = .returned (.bool false) ∧ w' = w := by
  have hl : (({ data := #[120, 45] } : ByteArray) ++ s).toList = 120 :: (45 :: s.data.toList) := list_app [120, 45] s
  have hz : (({ data := #[120, 45] } : ByteArray) ++ s).size = 2 + s.size := by rw [ByteArray.size_append]; rfl
  refine wrap_any _ false w fun w => res_any _ 120 false w (by omega) (by omega) _ hl rfl rfl rfl ?_
  rw [list_extract, hl]; rfl

end Go.Proofs.Qxb6603402aMods.headerWalks
