/-
  THE WALK OF 'LawS4539BPair'.
-/
import Derived.Test.YbulkcozcUntr
namespace Go.Proofs.Ybulkcozc.lawS4539BPair
open Go.RowKit Go.Proofs.Ybulkcozc.Untr
set_option linter.unusedVariables false

/-- 'zzs4539bpick' hands back some number; nothing turns. -/
theorem pick_any (v s : Int) (w : World) (h0 : 0 ≤ s) (h1 : s ≤ 255) :
    Calls Yba.prog 9 #[.int .i64 v, .int .u8 s] w fun e w' => ∃ r : Int, e = .returned (.int .i64 r) ∧ w' = w := by
  go_enter Yba.func9, Yba.ntmps9
  go_wp2
  all_goals
    go_ret
    exact ⟨_, rfl, rfl⟩

theorem at_two (x y : Int) (w : World) : At (w.alloc (.cells #[.int .i64 x, .int .i64 y] 3)) (some ⟨w.heap.size, 0, none⟩) [x, y] := by
  intro _
  refine ⟨w.heap.size, 0, rfl, by simp, fun j hj => ?_⟩
  rw [World.cell?_alloc_at _ _ _ _ rfl]
  match j, hj with
  | 0, _ => rfl
  | 1, _ => rfl

theorem un_yes {x y : Int} (h : x = -2 ∨ y = -2) : un [x, y] = -2 := by
  unfold un
  rw [if_pos]
  rcases h with h | h <;> simp [h]
theorem un_no {x y : Int} (h1 : x ≠ -2) (h2 : y ≠ -2) : un [x, y] = -4 := by
  unfold un
  rw [if_neg]
  simp only [List.mem_cons, List.not_mem_nil, or_false, not_or]
  exact ⟨fun e => h1 e.symm, fun e => h2 e.symm⟩

theorem ret_true {a b : Int} (h : a = b) : Ending.returned (.bool (a == b)) = .returned (.bool true) := by rw [h]; simp

set_option maxRecDepth 100000 in
set_option maxHeartbeats 400000 in
theorem walk_any (a b s t : Int) (w : World) (s0 : 0 ≤ s) (s1 : s ≤ 255) (t0 : 0 ≤ t) (t1 : t ≤ 255) :
    Calls Yba.prog 4 #[.int .i64 a, .int .i64 b, .int .u8 s, .int .u8 t] w fun e w' => e = .returned (.bool true) ∧ Grown w w' := by
  go_enter Yba.func4, Yba.ntmps4
  go_wp2_with (first
    | (go_at_call 9; refine (pick_any a s w s0 s1).mono ?_; rintro e w' ⟨x, rfl, rfl⟩)
    | (go_at_call 9; refine (pick_any b t _ t0 t1).mono ?_; rintro e w' ⟨y, rfl, rfl⟩)
    | (go_at_call 6; refine (untr_any _ 2 [x, y] _ (by simp) (at_two x y _)).mono ?_; rintro e w' ⟨rfl, rfl⟩))
  · go_ret
    exact ⟨ret_true (un_yes (.inl rfl)), (Grown.refl _).alloc _ _⟩
  · have h : (x == -2) = true ∨ (y == -2) = true := by assumption
    go_ret
    exact ⟨ret_true (un_yes (by simpa using h)), (Grown.refl _).alloc _ _⟩
  · have h : (x == -2) = false ∧ (y == -2) = false := by assumption
    go_ret
    exact ⟨ret_true (un_no (by simpa using h.1) (by simpa using h.2)), (Grown.refl _).alloc _ _⟩

end Go.Proofs.Ybulkcozc.lawS4539BPair
