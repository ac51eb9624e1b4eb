/-
  'appendTwoDigits' AND 'AppendOffset' BY THEIR CONTRACTS, onto a row of byts that the caller itself owns (or nil).
-/
import Derived.Test.YbulkcouuRows
import Derived.WalkKit
import Derived.WalkSpells
import Derived.WalkLawsBesides
import Derived.Deep.AppendLies
namespace Go.Proofs.Ybulkcouu.Off
open Go.RowKit
set_option linter.unusedVariables false

theorem info5 : (Yba.prog.info? 5).map (fun i => (i.zero, i.size, i.bytes)) = some (some (.int .u8 0), 1, 1) := by kernel_rfl

/-- Bytes as values. -/
def byts (xs : List Int) : List Value := xs.map (Value.int .u8)
theorem bytes_snoc (xs ys : List Int) : byts xs ++ byts ys = byts (xs ++ ys) := by simp [byts]

theorem two_any (base : Nat) (v : Value) (n : Nat) (xs : List Int) (d : Int) (w : World) (hown : w.ownsRow base 5 1 v n (byts xs)) (hn : n ≤ 4096) (hd : 0 ≤ d) (hd' : d ≤ 99) (hb : base ≤ w.heap.size) :
    Calls Yba.prog 7 #[v, .int .i64 d] w fun e w' => ∃ v', e = .returned v' ∧ w'.ownsRow base 5 1 v' (n + 2) (byts (xs ++ [48 + d / 10, 48 + d % 10])) ∧ Below base w w' := by
  obtain ⟨i0, hi, hz0, hz1, hz2⟩ := info_parts info5
  go_enter Yba.func7, Yba.ntmps7
  go_wp2_with (at_builtin; refine wpList_append_lies _ rfl (.tmp 5) (.tmp 14) 22 rfl base 5 i0 _ 1 1 Yba.underlying22 hi hz0 hz1 hz2 rfl (by decide) v n (byts xs) rfl (hown.alloc _) ⟨w.heap.size, 0, none⟩ 2 2 [.int .u8 (48 + d / 10), .int .u8 (48 + d % 10)] rfl rfl (cell_two_new _ _ _ _) (by simp [Value.oneCell']) (by decide) (by unfold maxLen; omega) (by omega) (by simp; omega) _ rfl ?_; intro g cap w1 hown1 hgrow1 hat1 hlt1)
  go_ret
  refine ⟨_, rfl, ?_, ?_⟩
  · rw [← bytes_snoc]; exact hown1
  · exact ((Below.refl base w).alloc hb _).grown hgrow1 (by simp; omega) (fun k e => (hown.lt k e).1)

theorem one_own {base n : Nat} {v : Value} {xs : List Int} {c : Int} {w w1 : World} {o : Obj} (hown : w.ownsRow base 5 1 v n (byts xs)) (hb : base ≤ w.heap.size) {g cap : Nat}
    (hown1 : w1.ownsRow base 5 1 (.slice (some ⟨g, 0, none⟩) (n + 1) cap) (n + 1) (byts xs ++ [.int .u8 c])) (hgrow1 : (w.alloc o).grownBy w1 v.ownBlock) :
    w1.ownsRow base 5 1 (.slice (some ⟨g, 0, none⟩) (n + 1) cap) (n + 1) (byts (xs ++ [c])) ∧ Below base w w1 ∧ base ≤ w1.heap.size :=
  ⟨by rw [← bytes_snoc]; exact hown1, ((Below.refl base w).alloc hb _).grown hgrow1 (by simp; omega) (fun k e => (hown.lt k e).1), by have := hgrow1.size; simp at this; omega⟩

/-- The nine byts: the sign, then the figures of a (the offset's amount). -/
def text (s a : Int) : List Int := [s, 48 + a / 3600 / 10, 48 + a / 3600 % 10, 58, 48 + a / 60 % 60 / 10, 48 + a / 60 % 60 % 10, 58, 48 + a % 60 / 10, 48 + a % 60 % 10]

set_option maxHeartbeats 1000000 in
theorem off_pos (base : Nat) (v : Value) (n : Nat) (xs : List Int) (a : Int) (w : World) (hown : w.ownsRow base 5 1 v n (byts xs)) (hn : n ≤ 2048) (ha : 0 ≤ a) (ha' : a < 360000) (hb : base ≤ w.heap.size) :
    Calls Yba.prog 5 #[v, .int .i64 a] w fun e w' => ∃ v', e = .returned v' ∧ w'.ownsRow base 5 1 v' (n + 9) (byts (xs ++ text 43 a)) ∧ Below base w w' := by
  obtain ⟨i0, hi, hz0, hz1, hz2⟩ := info_parts info5
  go_enter Yba.func5, Yba.ntmps5
  go_wp2_with (first
    | (at_builtin; refine wpList_append_lies _ rfl (.tmp 10) (.tmp 12) 22 rfl base 5 i0 _ 1 1 Yba.underlying22 hi hz0 hz1 hz2 rfl (by decide) v n _ rfl (hown.alloc _) ⟨w.heap.size, 0, none⟩ 1 1 [.int .u8 43] rfl rfl (cell_one_new _ _ _) (by simp [Value.oneCell']) (by decide) (by unfold maxLen; omega) (by omega) (by simp; omega) _ rfl ?_; intro g1 c1 w1 hown1 hgrow1 hat1 hlt1; obtain ⟨r1, b1, z1⟩ := one_own hown hb hown1 hgrow1; clear hown1 hgrow1 hat1 hlt1 hown)
    | (go_at_call 7; refine (two_any base _ (n + 1) _ _ w1 r1 (by omega) (by omega) (by omega) z1).mono ?_; rintro e w2 ⟨v2, rfl, r2, b2⟩; have z2 : base ≤ w2.heap.size := Nat.le_trans z1 b2.size; clear r1)
    | (at_builtin; refine wpList_append_lies _ rfl (.tmp 18) (.tmp 19) 22 rfl base 5 i0 _ 1 1 Yba.underlying22 hi hz0 hz1 hz2 rfl (by decide) v2 (n + 1 + 2) _ rfl (r2.alloc _) ⟨w2.heap.size, 0, none⟩ 1 1 [.int .u8 58] rfl rfl (cell_one_new _ _ _) (by simp [Value.oneCell']) (by decide) (by unfold maxLen; omega) (by omega) (by simp; omega) _ rfl ?_; intro g3 c3 w3 hown3 hgrow3 hat3 hlt3; obtain ⟨r3, b3, z3⟩ := one_own r2 z2 hown3 hgrow3; clear hown3 hgrow3 hat3 hlt3 r2)
    | (go_at_call 7; refine (two_any base _ (n + 1 + 2 + 1) _ _ w3 r3 (by omega) (by omega) (by omega) z3).mono ?_; rintro e w4 ⟨v4, rfl, r4, b4⟩; have z4 : base ≤ w4.heap.size := Nat.le_trans z3 b4.size; clear r3)
    | (at_builtin; refine wpList_append_lies _ rfl (.tmp 26) (.tmp 27) 22 rfl base 5 i0 _ 1 1 Yba.underlying22 hi hz0 hz1 hz2 rfl (by decide) v4 (n + 1 + 2 + 1 + 2) _ rfl (r4.alloc _) ⟨w4.heap.size, 0, none⟩ 1 1 [.int .u8 58] rfl rfl (cell_one_new _ _ _) (by simp [Value.oneCell']) (by decide) (by unfold maxLen; omega) (by omega) (by simp; omega) _ rfl ?_; intro g5 c5 w5 hown5 hgrow5 hat5 hlt5; obtain ⟨r5, b5, z5⟩ := one_own r4 z4 hown5 hgrow5; clear hown5 hgrow5 hat5 hlt5 r4)
    | (go_at_call 7; refine (two_any base _ (n + 1 + 2 + 1 + 2 + 1) _ _ w5 r5 (by omega) (by omega) (by omega) z5).mono ?_; rintro e w6 ⟨v6, rfl, r6, b6⟩; have z6 : base ≤ w6.heap.size := Nat.le_trans z5 b6.size; clear r5))
  go_ret
  refine ⟨_, rfl, ?_, ((((b1.trans b2).trans b3).trans b4).trans b5).trans b6⟩
  have e : xs ++ text 43 a = xs ++ [43] ++ [48 + a / 3600 / 10, 48 + a / 3600 % 10] ++ [58] ++ [48 + a / 60 % 60 / 10, 48 + a / 60 % 60 % 10] ++ [58] ++ [48 + a % 60 / 10, 48 + a % 60 % 10] := by simp [text]
  rw [e]
  exact r6

set_option maxHeartbeats 1000000 in
theorem off_neg (base : Nat) (v : Value) (n : Nat) (xs : List Int) (a : Int) (w : World) (hown : w.ownsRow base 5 1 v n (byts xs)) (hn : n ≤ 2048) (ha : 0 < a) (ha' : a < 360000) (hb : base ≤ w.heap.size) :
    Calls Yba.prog 5 #[v, .int .i64 (-a)] w fun e w' => ∃ v', e = .returned v' ∧ w'.ownsRow base 5 1 v' (n + 9) (byts (xs ++ text 45 a)) ∧ Below base w w' := by
  obtain ⟨i0, hi, hz0, hz1, hz2⟩ := info_parts info5
  go_enter Yba.func5, Yba.ntmps5
  go_wp2_with (first
    | (at_builtin; refine wpList_append_lies _ rfl (.tmp 10) (.tmp 12) 22 rfl base 5 i0 _ 1 1 Yba.underlying22 hi hz0 hz1 hz2 rfl (by decide) v n _ rfl (hown.alloc _) ⟨w.heap.size, 0, none⟩ 1 1 [.int .u8 45] rfl rfl (cell_one_new _ _ _) (by simp [Value.oneCell']) (by decide) (by unfold maxLen; omega) (by omega) (by simp; omega) _ rfl ?_; intro g1 c1 w1 hown1 hgrow1 hat1 hlt1; obtain ⟨r1, b1, z1⟩ := one_own hown hb hown1 hgrow1; clear hown1 hgrow1 hat1 hlt1 hown)
    | (go_at_call 7; refine (two_any base _ (n + 1) _ _ w1 r1 (by omega) (by omega) (by omega) z1).mono ?_; rintro e w2 ⟨v2, rfl, r2, b2⟩; have z2 : base ≤ w2.heap.size := Nat.le_trans z1 b2.size; clear r1)
    | (at_builtin; refine wpList_append_lies _ rfl (.tmp 18) (.tmp 19) 22 rfl base 5 i0 _ 1 1 Yba.underlying22 hi hz0 hz1 hz2 rfl (by decide) v2 (n + 1 + 2) _ rfl (r2.alloc _) ⟨w2.heap.size, 0, none⟩ 1 1 [.int .u8 58] rfl rfl (cell_one_new _ _ _) (by simp [Value.oneCell']) (by decide) (by unfold maxLen; omega) (by omega) (by simp; omega) _ rfl ?_; intro g3 c3 w3 hown3 hgrow3 hat3 hlt3; obtain ⟨r3, b3, z3⟩ := one_own r2 z2 hown3 hgrow3; clear hown3 hgrow3 hat3 hlt3 r2)
    | (go_at_call 7; refine (two_any base _ (n + 1 + 2 + 1) _ _ w3 r3 (by omega) (by omega) (by omega) z3).mono ?_; rintro e w4 ⟨v4, rfl, r4, b4⟩; have z4 : base ≤ w4.heap.size := Nat.le_trans z3 b4.size; clear r3)
    | (at_builtin; refine wpList_append_lies _ rfl (.tmp 26) (.tmp 27) 22 rfl base 5 i0 _ 1 1 Yba.underlying22 hi hz0 hz1 hz2 rfl (by decide) v4 (n + 1 + 2 + 1 + 2) _ rfl (r4.alloc _) ⟨w4.heap.size, 0, none⟩ 1 1 [.int .u8 58] rfl rfl (cell_one_new _ _ _) (by simp [Value.oneCell']) (by decide) (by unfold maxLen; omega) (by omega) (by simp; omega) _ rfl ?_; intro g5 c5 w5 hown5 hgrow5 hat5 hlt5; obtain ⟨r5, b5, z5⟩ := one_own r4 z4 hown5 hgrow5; clear hown5 hgrow5 hat5 hlt5 r4)
    | (go_at_call 7; refine (two_any base _ (n + 1 + 2 + 1 + 2 + 1) _ _ w5 r5 (by omega) (by omega) (by omega) z5).mono ?_; rintro e w6 ⟨v6, rfl, r6, b6⟩; have z6 : base ≤ w6.heap.size := Nat.le_trans z5 b6.size; clear r5))
  go_ret
  refine ⟨_, rfl, ?_, ((((b1.trans b2).trans b3).trans b4).trans b5).trans b6⟩
  have e : xs ++ text 45 a = xs ++ [45] ++ [48 + a / 3600 / 10, 48 + a / 3600 % 10] ++ [58] ++ [48 + a / 60 % 60 / 10, 48 + a / 60 % 60 % 10] ++ [58] ++ [48 + a % 60 / 10, 48 + a % 60 % 10] := by simp [text]
  rw [e]
  exact r6

end Go.Proofs.Ybulkcouu.Off
