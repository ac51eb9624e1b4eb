/-
  THE WALKS OF 'LawS4531ARoundTrip'.
-/
import Derived.Test.YbulkcouuOff
import Derived.Deep.QuietTactic
import Derived.BigQuiet
namespace Go.Proofs.Ybulkcouu.lawS4531ARoundTrip
open Go.RowKit Go.Proofs.Ybulkcouu.Off
set_option linter.unusedVariables false

theorem ret2 {a b : Int} (h : a = b) : Ending.returned (.tuple #[.int .i64 a, .bool true]) = .returned (.tuple #[.int .i64 b, .bool true]) := by rw [h]

theorem digit_any (d : Int) (w : World) (h0 : 0 ≤ d) (h9 : d ≤ 9) :
    Calls Yba.prog 6 #[.int .u8 (48 + d)] w fun e w' => e = .returned (.tuple #[.int .i64 d, .bool true]) ∧ w' = w := by
  go_enter Yba.func6, Yba.ntmps6
  go_wp2
  go_ret2
  exact ⟨ret2 (by omega), rfl⟩

/-- The six figures, and where they stand. -/
def D (a : Int) : Nat → Int
  | 0 => a / 3600 / 10
  | 1 => a / 3600 % 10
  | 2 => a / 60 % 60 / 10
  | 3 => a / 60 % 60 % 10
  | 4 => a % 60 / 10
  | _ => a % 60 % 10
def ix : Nat → Nat
  | 0 => 1
  | 1 => 2
  | 2 => 4
  | 3 => 5
  | 4 => 7
  | _ => 8

theorem D_bd (a : Int) (h : 0 ≤ a) (h' : a < 360000) (j : Nat) (hj : j < 6) : 0 ≤ D a j ∧ D a j ≤ 9 := by
  match j, hj with
  | 0, _ => simp only [D]; omega
  | 1, _ => simp only [D]; omega
  | 2, _ => simp only [D]; omega
  | 3, _ => simp only [D]; omega
  | 4, _ => simp only [D]; omega
  | 5, _ => simp only [D]; omega

theorem ix_lt (j : Nat) : ix j < 9 := by
  unfold ix
  split <;> omega

theorem text_ix (s a : Int) (j : Nat) (hj : j < 6) : (byts (text s a))[ix j]? = some (.int .u8 (48 + D a j)) := by
  match j, hj with
  | 0, _ => rfl
  | 1, _ => rfl
  | 2, _ => rfl
  | 3, _ => rfl
  | 4, _ => rfl
  | 5, _ => rfl

/-- What stands between two rounds: j figures have been read. -/
structure Mid (w wx : World) (s a : Int) (g I V j : Nat) : Prop where
  g0 : wx.cell? ⟨g, 0, none⟩ = some (.int .u8 s)
  vs : ∀ t, t < 6 → wx.cell? ⟨V, t, none⟩ = some (.int .i64 (if t < j then D a t else 0))
  fr : ∀ t, wx.frozen? ⟨V, t, none⟩ = false
  is : ∀ t, t < 6 → wx.cell? ⟨I, t, none⟩ = some (.int .i64 (ix t))
  gs : ∀ t, t < 6 → wx.cell? ⟨g, ix t, none⟩ = some (.int .u8 (48 + D a t))
  neI : I ≠ V
  neG : g ≠ V
  hV : w.heap.size ≤ V
  bel : Below w.heap.size w wx

theorem Mid.step {w wx : World} {s a : Int} {g I V j : Nat} (M : Mid w wx s a g I V j) (hj : j < 6) : Mid w (wx.setCell ⟨V, j, none⟩ (.int .i64 (D a j))) s a g I V (j + 1) := by
  refine ⟨(World.cell?_setCell_other _ _ _ _ (by simp only [ne_eq, Addr.mk.injEq]; have := M.neG; omega)).trans M.g0, fun t ht => ?_, fun t => (World.frozen?_setCell _ _ _ _).trans (M.fr t), fun t ht => ?_, fun t ht => ?_, M.neI, M.neG, M.hV, M.bel.setCell M.hV _⟩
  · by_cases e : t = j
    · subst e
      rw [World.cell?_setCell_same _ _ _ (M.vs t ht), if_pos (by omega)]
    · rw [World.cell?_setCell_other _ _ _ _ (by simp only [ne_eq, Addr.mk.injEq]; omega), M.vs t ht]
      have : (t < j) = (t < j + 1) := by apply propext; omega
      simp only [this]
  · rw [World.cell?_setCell_other _ _ _ _ (by simp only [ne_eq, Addr.mk.injEq]; have := M.neI; omega)]; exact M.is t ht
  · rw [World.cell?_setCell_other _ _ _ _ (by simp only [ne_eq, Addr.mk.injEq]; have := M.neG; omega)]; exact M.gs t ht

theorem mid_start {w w2 : World} {s a : Int} {g c2 : Nat} (r : w2.ownsRow w.heap.size 5 1 (.slice (some ⟨g, 0, none⟩) 9 c2) 9 (byts (text s a))) (bl : Below w.heap.size w w2) :
    Mid w ((w2.alloc (.cells #[.int .i64 1, .int .i64 2, .int .i64 4, .int .i64 5, .int .i64 7, .int .i64 8] 26)).alloc (.cells #[.int .i64 0, .int .i64 0, .int .i64 0, .int .i64 0, .int .i64 0, .int .i64 0] 26)) s a g w2.heap.size (w2.heap.size + 1) 0 := by
  have hg := (r.lt g rfl).2
  have hs := bl.size
  refine ⟨?_, fun t ht => ?_, fun t => World.frozen?_alloc_at _ _ _ _ (by simp), fun t ht => ?_, fun t ht => ?_, by omega, by omega, by omega, (bl.alloc bl.size _).alloc (by simp; omega) _⟩
  · rw [World.cell?_alloc_past _ _ _ (by simp; omega), World.cell?_alloc_past _ _ _ hg, r.cellAt _ (by omega)]
    rfl
  · rw [World.cell?_alloc_at _ _ _ _ (by simp)]
    match t, ht with
    | 0, _ => rfl
    | 1, _ => rfl
    | 2, _ => rfl
    | 3, _ => rfl
    | 4, _ => rfl
    | 5, _ => rfl
  · rw [World.cell?_alloc_past _ _ _ (by simp), World.cell?_alloc_at _ _ _ _ rfl]
    match t, ht with
    | 0, _ => rfl
    | 1, _ => rfl
    | 2, _ => rfl
    | 3, _ => rfl
    | 4, _ => rfl
    | 5, _ => rfl
  · rw [World.cell?_alloc_past _ _ _ (by simp; omega), World.cell?_alloc_past _ _ _ hg, r.cellAt _ (by have := ix_lt t; omega)]
    exact text_ix s a t ht

theorem Mid.last {w wx : World} {s a : Int} {g I V : Nat} (M : Mid w wx s a g I V 6) :
    wx.cell? ⟨V, 0, none⟩ = some (.int .i64 (a / 3600 / 10)) ∧ wx.cell? ⟨V, 1, none⟩ = some (.int .i64 (a / 3600 % 10)) ∧ wx.cell? ⟨V, 2, none⟩ = some (.int .i64 (a / 60 % 60 / 10)) ∧
      wx.cell? ⟨V, 3, none⟩ = some (.int .i64 (a / 60 % 60 % 10)) ∧ wx.cell? ⟨V, 4, none⟩ = some (.int .i64 (a % 60 / 10)) ∧ wx.cell? ⟨V, 5, none⟩ = some (.int .i64 (a % 60 % 10)) :=
  ⟨M.vs 0 (by omega), M.vs 1 (by omega), M.vs 2 (by omega), M.vs 3 (by omega), M.vs 4 (by omega), M.vs 5 (by omega)⟩

theorem ret_true {a b : Int} (h : a = b) : Ending.returned (.bool (a == b)) = .returned (.bool true) := by rw [h]; simp

set_option maxRecDepth 100000 in
set_option maxHeartbeats 1000000 in
theorem walk_pos (a : Int) (w : World) (ha : 0 ≤ a) (ha' : a < 360000) :
    Calls Yba.prog 4 #[.int .i64 a] w fun e w' => e = .returned (.bool true) ∧ Below w.heap.size w w' := by
  go_enter Yba.func4, Yba.ntmps4
  go_wp2_with (go_at_call 5; refine (off_pos w.heap.size (.slice none 0 0) 0 [] a w (World.ownsRow_nil _ _ _ _) (by omega) ha ha' (Nat.le_refl _)).mono ?_; rintro e w2 ⟨v2, rfl, r2, b2⟩; rw [List.nil_append, Nat.zero_add] at r2; obtain ⟨g, c2, rfl, _, hg2⟩ := r2.form (by omega); have q0 : w2.cell? ⟨g, 0, none⟩ = some (.int .u8 43) := r2.cellAt 0 (by omega); have q3 : w2.cell? ⟨g, 3, none⟩ = some (.int .u8 58) := r2.cellAt 3 (by omega); have q6 : w2.cell? ⟨g, 6, none⟩ = some (.int .u8 58) := r2.cellAt 6 (by omega); have HM := mid_start r2 b2; have HR := (r2.lt g rfl).2; clear r2 b2)
  clear q0 q3 q6
  go_loopw [6] (fun i wx => ∃ j : Nat, j ≤ 6 ∧ i = .int .i64 j ∧ Mid w wx 43 a g w2.heap.size (w2.heap.size + 1) j) (fun i _ => 6 - (intOf i).toNat)
  case atStart => exact ⟨0, Nat.zero_le _, rfl, HM⟩
  case round =>
    obtain ⟨j, hj, rfl, M⟩ := hrel
    clear HM HR hg2
    by_cases hj6 : j < 6
    · have v1 := M.vs j hj6
      have v2 := M.fr j
      have v3 := M.is j hj6
      have v4 := M.gs j hj6
      have v5 := D_bd a (by omega) ha' j hj6
      have v6 := ix_lt j
      obtain ⟨d, hd⟩ : ∃ d, d = D a j := ⟨_, rfl⟩
      obtain ⟨x, hx⟩ : ∃ x, x = ix j := ⟨_, rfl⟩
      rw [if_neg (by omega)] at v1
      rw [← hx] at v3 v4 v6
      rw [← hd] at v4 v5
      have HH : Hid (d = D a j ∧ Mid w wr 43 a g w2.heap.size (w2.heap.size + 1) j) := ⟨hd, M⟩
      obtain ⟨v7, v8⟩ := v5
      have v9 : (j : Int) < 6 := by omega
      have v10 : (x : Int) < 9 := by omega
      clear hd hx M
      go_wp2_with (go_at_call 6; refine (digit_any d _ v7 v8).mono ?_; rintro e w' ⟨rfl, rfl⟩)
      go_roundw
      case rel => exact ⟨j + 1, by omega, by go_num, by rw [HH.out.1]; exact HH.out.2.step hj6⟩
      case measure => simp [intOf]; omega
    · obtain rfl : j = 6 := by omega
      obtain ⟨e0, e1, e2, e3, e4, e5⟩ := M.last
      have q0 := M.g0
      have bl := M.bel
      clear M hj hj6
      go_wp2
      go_ret
      exact ⟨ret_true (by omega), bl⟩

set_option maxRecDepth 100000 in
set_option maxHeartbeats 1000000 in
theorem walk_neg (a : Int) (w : World) (ha : 0 < a) (ha' : a < 360000) :
    Calls Yba.prog 4 #[.int .i64 (-a)] w fun e w' => e = .returned (.bool true) ∧ Below w.heap.size w w' := by
  go_enter Yba.func4, Yba.ntmps4
  go_wp2_with (go_at_call 5; refine (off_neg w.heap.size (.slice none 0 0) 0 [] a w (World.ownsRow_nil _ _ _ _) (by omega) ha ha' (Nat.le_refl _)).mono ?_; rintro e w2 ⟨v2, rfl, r2, b2⟩; rw [List.nil_append, Nat.zero_add] at r2; obtain ⟨g, c2, rfl, _, hg2⟩ := r2.form (by omega); have q0 : w2.cell? ⟨g, 0, none⟩ = some (.int .u8 45) := r2.cellAt 0 (by omega); have q3 : w2.cell? ⟨g, 3, none⟩ = some (.int .u8 58) := r2.cellAt 3 (by omega); have q6 : w2.cell? ⟨g, 6, none⟩ = some (.int .u8 58) := r2.cellAt 6 (by omega); have HM := mid_start r2 b2; have HR := (r2.lt g rfl).2; clear r2 b2)
  clear q0 q3 q6
  go_loopw [6] (fun i wx => ∃ j : Nat, j ≤ 6 ∧ i = .int .i64 j ∧ Mid w wx 45 a g w2.heap.size (w2.heap.size + 1) j) (fun i _ => 6 - (intOf i).toNat)
  case atStart => exact ⟨0, Nat.zero_le _, rfl, HM⟩
  case round =>
    obtain ⟨j, hj, rfl, M⟩ := hrel
    clear HM HR hg2
    by_cases hj6 : j < 6
    · have v1 := M.vs j hj6
      have v2 := M.fr j
      have v3 := M.is j hj6
      have v4 := M.gs j hj6
      have v5 := D_bd a (by omega) ha' j hj6
      have v6 := ix_lt j
      obtain ⟨d, hd⟩ : ∃ d, d = D a j := ⟨_, rfl⟩
      obtain ⟨x, hx⟩ : ∃ x, x = ix j := ⟨_, rfl⟩
      rw [if_neg (by omega)] at v1
      rw [← hx] at v3 v4 v6
      rw [← hd] at v4 v5
      have HH : Hid (d = D a j ∧ Mid w wr 45 a g w2.heap.size (w2.heap.size + 1) j) := ⟨hd, M⟩
      obtain ⟨v7, v8⟩ := v5
      have v9 : (j : Int) < 6 := by omega
      have v10 : (x : Int) < 9 := by omega
      clear hd hx M
      go_wp2_with (go_at_call 6; refine (digit_any d _ v7 v8).mono ?_; rintro e w' ⟨rfl, rfl⟩)
      go_roundw
      case rel => exact ⟨j + 1, by omega, by go_num, by rw [HH.out.1]; exact HH.out.2.step hj6⟩
      case measure => simp [intOf]; omega
    · obtain rfl : j = 6 := by omega
      obtain ⟨e0, e1, e2, e3, e4, e5⟩ := M.last
      have q0 := M.g0
      have bl := M.bel
      clear M hj hj6
      go_wp2
      go_ret
      exact ⟨ret_true (by omega), bl⟩

end Go.Proofs.Ybulkcouu.lawS4531ARoundTrip
