import Derived.Test.YbulkffcRows
import Derived.WalkKit
import Derived.WalkSpells
import Derived.BigQuiet
namespace Go.Proofs.Ybulkffc
open Go.RowKit
set_option linter.unusedVariables false

/-- zzs0301btext: some text, fixed by its argument. -/
def txt (x : Nat) : ByteArray := match x % 6 with
  | 0 => ⟨#[97]⟩
  | 1 => ⟨#[46]⟩
  | 2 => ⟨#[84, 121, 112, 101]⟩
  | 3 => ⟨#[60]⟩
  | 4 => ⟨#[62]⟩
  | _ => ⟨#[98]⟩

set_option maxHeartbeats 400000 in
theorem text_any (x : Nat) (hx : x < 256) (w : World) : Calls Yba.prog 12 #[.int .u8 x] w fun e w' => e = .returned (.string (txt x)) ∧ w' = w := by
  have h : x % 6 = 0 ∨ x % 6 = 1 ∨ x % 6 = 2 ∨ x % 6 = 3 ∨ x % 6 = 4 ∨ x % 6 = 5 := by omega
  rcases h with h | h | h | h | h | h
  all_goals
    have ht : Hid (x % 6 = _) := h
    have b1 := Nat.le_of_eq h
    have b2 := Nat.le_of_eq h.symm
    clear h
    go_enter Yba.func12, Yba.ntmps12
    go_wp2
    go_ret
    exact ⟨by unfold txt; rw [ht.out]; rfl, rfl⟩

/-- A token as the builder lays it: its text and its kind. -/
abbrev tokCells (T : ByteArray) (k : Nat) : Array Value := #[.string T, .slice none 0 0, .int .i64 0, .int .u8 k, .bool false, .bool false]

/-- Is the token a dot? -/
def dotB (T : ByteArray) (k : Nat) : Bool := k == 3 && T.toList == [46]
theorem dotB_three (T : ByteArray) {k : Nat} (h : k = 3) : dotB T k = (T.toList == [46]) := by subst h; rfl
theorem dotB_other (T : ByteArray) {k : Nat} (h : k ≠ 3) : dotB T k = false := by simp [dotB, h]

set_option maxHeartbeats 400000 in
theorem is_any (T : ByteArray) (k : Nat) (hk : k < 4) (w : World) :
    Calls Yba.prog 13 #[.agg (tokCells T k), .int .u8 3, .string ⟨#[46]⟩] w fun e w' => e = .returned (.bool (dotB T k)) ∧ w' = w.alloc (.cells (tokCells T k) 42) := by
  by_cases h3 : k = 3
  · have HD : Hid (dotB T k = (T.toList == [46])) := dotB_three T h3
    subst h3
    go_enter Yba.func13, Yba.ntmps13
    go_wp2
    go_ret
    exact ⟨by rw [HD.out]; rfl, rfl⟩
  · have HD : Hid (dotB T k = false) := dotB_other T h3
    have hb : ((k : Int) == 3) = false := by simp; omega
    go_enter Yba.func13, Yba.ntmps13
    go_wp2
    go_ret
    exact ⟨by rw [HD.out]; rfl, rfl⟩

set_option maxHeartbeats 400000 in
theorem dot_any (T : ByteArray) (k : Nat) (hk : k < 4) (w : World) :
    Calls Yba.prog 14 #[.agg (tokCells T k)] w fun e w' => e = .returned (.bool (dotB T k)) ∧ w' = w.alloc (.cells (tokCells T k) 42) := by
  by_cases h3 : k = 3
  · have HD : Hid (dotB T k = (T.toList == [46])) := dotB_three T h3
    subst h3
    go_enter Yba.func14, Yba.ntmps14
    go_wp2
    go_ret
    exact ⟨by rw [HD.out]; rfl, rfl⟩
  · have HD : Hid (dotB T k = false) := dotB_other T h3
    have hb : ((k : Int) == 3) = false := by simp; omega
    go_enter Yba.func14, Yba.ntmps14
    go_wp2
    go_ret
    exact ⟨by rw [HD.out]; rfl, rfl⟩
end Go.Proofs.Ybulkffc
