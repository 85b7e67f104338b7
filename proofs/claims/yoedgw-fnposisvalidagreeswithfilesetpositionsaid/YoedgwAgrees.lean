/-
  THE WALK of zzlaws_parser_b40.FnPosIsValidAgreesWithFileSetPosition: out of the contracts in YoedgwSets, YoedgwLines.
-/
import Derived.Test.YoedgwLines
namespace Go.Proofs.Yoedgw
open Go.RowKit

theorem posYes (p : Int) (w : World) (h : 0 < p) : Calls Edgg.prog 7 #[.int .i64 p] w fun e w' => e = .returned (.bool true) ∧ w' = w := by
  have e : (p != 0) = true := by simp; omega
  have c := posValid_any p w
  rw [e] at c
  exact c
theorem posNo (w : World) : Calls Edgg.prog 7 #[.int .i64 0] w fun e w' => e = .returned (.bool false) ∧ w' = w := posValid_any 0 w
theorem lineYes (x : ByteArray) (o c : Int) (w : World) :
    Calls Edgg.prog 9 #[.agg #[.string x, .int .i64 o, .int .i64 1, .int .i64 c]] w fun e w' => e = .returned (.bool true) ∧ Below w.heap.size w w' := lineValid_any x o 1 c w
theorem lineNo (x : ByteArray) (o c : Int) (w : World) :
    Calls Edgg.prog 9 #[.agg #[.string x, .int .i64 o, .int .i64 0, .int .i64 c]] w fun e w' => e = .returned (.bool false) ∧ Below w.heap.size w w' := lineValid_any x o 0 c w

set_option maxHeartbeats 1600000 in
/-- A position from 1 on: all three say 'valid'. -/
theorem agrees_pos (size p : Int) (w : World) (h0 : 0 ≤ size) (h1 : size ≤ 536870912) (h2 : 0 < p) (h3 : p ≤ 1 + size) :
    Calls Edgg.prog 3 #[.int .i64 size, .int .i64 p] w fun e w' => e = .returned (.bool true) ∧ Below w.heap.size w w' := by
  go_enter Edgg.func3, Edgg.ntmps3
  go_wp2_with fail
  refine (newSet_any w).mono ?_
  rintro e w1 ⟨rfl, hw1⟩
  have S1 : Hid (SetAt w1 w.heap.size 1 (.slice none 0 0) none) := by rw [hw1]; exact heap_alloc_new w _
  have B1 : Hid (Below w.heap.size w w1) := by rw [hw1]; exact (Below.refl _ _).alloc (Nat.le_refl _) _
  clear hw1
  go_wp2_with fail
  refine (addFile_any w.heap.size w.heap.size _ 1 size none 0 0 [] none w1 (by omega) (by omega) h0 (by omega) (by omega) S1.out (World.ownsRow_nil _ _ _ _) (Nat.le_refl _)).mono ?_
  rintro e w2 ⟨rfl, ao, cap, f2, s2, o2, b2, y2⟩
  have F2 : Hid _ := f2
  have S2 : Hid _ := s2
  have B2 : Hid (Below w.heap.size w w2) := B1.out.trans b2
  clear f2 s2 o2 b2 y2 S1 B1
  go_wp2_with fail
  refine (posYes p w2 h2).mono ?_
  rintro e w3 ⟨rfl, rfl⟩
  go_wp2_with fail
  refine (setPos_one _ _ _ _ 1 size _ p _ w3 S2.out F2.out (by omega) (by omega) h3 (by omega) h0 h1 h2).mono ?_
  rintro e w4 ⟨rfl, b4⟩
  have F4 : Hid _ := FileAt.below F2.out b4
  have B4 : Hid (Below w.heap.size w w4) := B2.out.trans (b4.mono B2.out.size)
  clear b4 B2 S2 F2
  go_wp2_with fail
  refine (lineYes _ _ _ w4).mono ?_
  rintro e w5 ⟨rfl, b5⟩
  have F5 : Hid _ := FileAt.below F4.out b5
  have B5 : Hid (Below w.heap.size w w5) := B4.out.trans (b5.mono B4.out.size)
  clear b5 B4 F4
  go_wp2_with fail
  refine (filePos_one _ _ _ _ 1 size p w5 F5.out (by omega) (by omega) h3 (by omega) h0 h1 h2).mono ?_
  rintro e w6 ⟨rfl, b6⟩
  have B6 : Hid (Below w.heap.size w w6) := B5.out.trans (b6.mono B5.out.size)
  clear b6 B5 F5
  go_wp2_with fail
  refine (lineYes _ _ _ w6).mono ?_
  rintro e w7 ⟨rfl, b7⟩
  have B7 : Hid (Below w.heap.size w w7) := B6.out.trans (b7.mono B6.out.size)
  clear b7 B6
  go_wp2
  go_ret
  exact ⟨rfl, B7.out⟩

set_option maxHeartbeats 1600000 in
/-- The position 0: all three say 'not valid'. -/
theorem agrees_zero (size : Int) (w : World) (h0 : 0 ≤ size) (h1 : size ≤ 536870912) :
    Calls Edgg.prog 3 #[.int .i64 size, .int .i64 0] w fun e w' => e = .returned (.bool true) ∧ Below w.heap.size w w' := by
  go_enter Edgg.func3, Edgg.ntmps3
  go_wp2_with fail
  refine (newSet_any w).mono ?_
  rintro e w1 ⟨rfl, hw1⟩
  have S1 : Hid (SetAt w1 w.heap.size 1 (.slice none 0 0) none) := by rw [hw1]; exact heap_alloc_new w _
  have B1 : Hid (Below w.heap.size w w1) := by rw [hw1]; exact (Below.refl _ _).alloc (Nat.le_refl _) _
  clear hw1
  go_wp2_with fail
  refine (addFile_any w.heap.size w.heap.size _ 1 size none 0 0 [] none w1 (by omega) (by omega) h0 (by omega) (by omega) S1.out (World.ownsRow_nil _ _ _ _) (Nat.le_refl _)).mono ?_
  rintro e w2 ⟨rfl, ao, cap, f2, s2, o2, b2, y2⟩
  have B2 : Hid (Below w.heap.size w w2) := B1.out.trans b2
  clear f2 s2 o2 b2 y2 S1 B1
  go_wp2_with fail
  refine (posNo w2).mono ?_
  rintro e w3 ⟨rfl, rfl⟩
  go_wp2_with fail
  refine (setPos_zero _ w3).mono ?_
  rintro e w4 ⟨rfl, b4⟩
  have B4 : Hid (Below w.heap.size w w4) := B2.out.trans (b4.mono B2.out.size)
  clear b4 B2
  go_wp2_with fail
  refine (lineNo _ _ _ w4).mono ?_
  rintro e w5 ⟨rfl, b5⟩
  have B5 : Hid (Below w.heap.size w w5) := B4.out.trans (b5.mono B4.out.size)
  clear b5 B4
  go_wp2_with fail
  refine (filePos_zero _ w5).mono ?_
  rintro e w6 ⟨rfl, b6⟩
  have B6 : Hid (Below w.heap.size w w6) := B5.out.trans (b6.mono B5.out.size)
  clear b6 B5
  go_wp2_with fail
  refine (lineNo _ _ _ w6).mono ?_
  rintro e w7 ⟨rfl, b7⟩
  have B7 : Hid (Below w.heap.size w w7) := B6.out.trans (b7.mono B6.out.size)
  clear b7 B6
  go_wp2
  go_ret
  exact ⟨rfl, B7.out⟩

/-- Some bound is broken: the law answers true at once. One walk a way through the two tests. -/
theorem agrees_out (size p : Int) (w : World) (h : size < 0 ∨ 0 ≤ size ∧ (536870912 < size ∨ size ≤ 536870912 ∧ (p < 0 ∨ 0 ≤ p ∧ 1 + size < p))) :
    Calls Edgg.prog 3 #[.int .i64 size, .int .i64 p] w fun e w' => e = .returned (.bool true) ∧ w' = w := by
  rcases h with h | ⟨_, h | ⟨_, h | ⟨_, h⟩⟩⟩
  all_goals
    go_enter Edgg.func3, Edgg.ntmps3
    go_wp2
    go_ret
    exact ⟨rfl, rfl⟩

theorem agrees_any (size p : Int) (w : World) :
    Calls Edgg.prog 3 #[.int .i64 size, .int .i64 p] w fun e w' => e = .returned (.bool true) ∧ Below w.heap.size w w' := by
  by_cases h : 0 ≤ size ∧ size ≤ 536870912 ∧ 0 ≤ p ∧ p ≤ 1 + size
  · obtain ⟨h0, h1, h2, h3⟩ := h
    by_cases hp : p = 0
    · subst hp
      exact agrees_zero size w h0 h1
    · exact agrees_pos size p w h0 h1 (by omega) h3
  · refine (agrees_out size p w (by omega)).mono ?_
    rintro e w' ⟨rfl, rfl⟩
    exact ⟨rfl, Below.refl _ _⟩
end Go.Proofs.Yoedgw
