import Derived.Test.YbulkcoteRows
import Derived.WalkKit
import Derived.WalkSpells
import Derived.WalkLawsBesides
import Derived.Deep.QuietTactic
import Derived.BigQuiet
import Derived.LaidEqlPtr
namespace Go.Proofs.Ybulkcote.lawS4528CKept
open Go.RowKit
set_option linter.unusedVariables false

theorem Yba.info34 : (Yba.prog.info? 34).map (fun i => (i.zero, i.size, i.bytes)) = some (some (.agg #[.string ByteArray.empty, .string ByteArray.empty]), 2, 32) := by kernel_rfl
theorem Yba.size69 : (Yba.prog.info? 69).map (·.size) = some 61 := by kernel_rfl

/-- 'p != q' where both are one pointer that is not nil. -/
theorem neq_same (a : Addr) (w : World) : (binOp .neq 37 (.pointer (some a)) (.pointer (some a))).run Yba.prog w = .ok (.bool false) w := by
  obtain ⟨j, hj, hjs⟩ := Option.map_eq_some_iff.1 Yba.size69
  have h : ∀ d : Nat, (Op.equalIn (d + 1) 37 (.pointer (some a)) (.pointer (some a))).run Yba.prog w = .ok true w := fun d => by
    simp [Op.equalIn, run_underlying Yba.underlying37, sizeOf, typeInfo, hj, run_sameAddr_same]
  simp only [binOp]
  simp [Op.equal, Op.maxDepth, h 9999]

theorem neq_map55 (w : World) : (binOp .neq 55 (.map none) (.map none)).run Yba.prog w = .ok (.bool false) w := by
  simpa using run_neq_map_nil w 55 _ _ none Yba.underlying55
theorem neq_map67 (w : World) : (binOp .neq 67 (.map none) (.map none)).run Yba.prog w = .ok (.bool false) w := by
  simpa using run_neq_map_nil w 67 _ _ none Yba.underlying67

/-- 'kept' where r holds a scratch. -/
theorem kept_some (b : Nat) (p : Addr) (w : World) (h : w.cell? ⟨b, 6, none⟩ = some (.pointer (some p))) :
    Calls Yba.prog 7 #[.pointer (some ⟨b, 0, none⟩)] w fun e w' => e = .returned (.pointer (some p)) ∧ w' = w := by
  go_enter Yba.func7, Yba.ntmps7
  go_wp2
  go_ret
  exact ⟨rfl, rfl⟩

/-- The world behind the making of a scratch. -/
theorem fresh_world (b : Nat) (w : World) (cs : Array Value) (h : w.cell? ⟨b, 6, none⟩ = some (.pointer none)) :
    let w' := (w.setCell ⟨b, 6, none⟩ (.pointer (some ⟨w.heap.size, 0, none⟩))).alloc (.cells cs 69)
    (∀ o, w'.cell? ⟨w.heap.size, o, none⟩ = cs[o]?) ∧ w'.cell? ⟨b, 6, none⟩ = some (.pointer (some ⟨w.heap.size, 0, none⟩)) ∧
      (∀ o, o ≠ 6 → w'.cell? ⟨b, o, none⟩ = w.cell? ⟨b, o, none⟩) ∧ Below b w w' := by
  have hb : b < w.heap.size := World.block_lt_of_cell? w _ h
  refine ⟨fun o => World.cell?_alloc_at _ _ _ _ (by simp), ?_, fun o ho => ?_, ?_⟩
  · rw [World.cell?_alloc_past _ _ _ (by simpa using hb)]
    exact World.cell?_setCell_same _ _ _ h
  · rw [World.cell?_alloc_past _ _ _ (by simpa using hb)]
    exact World.cell?_setCell_other _ _ _ _ (by simp only [ne_eq, Addr.mk.injEq]; omega)
  · exact ((Below.refl b w).setCell (Nat.le_refl _) _).alloc (by rw [World.size_setCell]; omega) _

set_option maxRecDepth 100000 in
/-- 'kept' where r holds none: a fresh one, all zero. -/
theorem kept_none (b : Nat) (w : World) (h : w.cell? ⟨b, 6, none⟩ = some (.pointer none)) (hf : w.frozen? ⟨b, 6, none⟩ = false) :
    Calls Yba.prog 7 #[.pointer (some ⟨b, 0, none⟩)] w fun e w' => e = .returned (.pointer (some ⟨w.heap.size, 0, none⟩)) ∧
      w'.cell? ⟨w.heap.size, 0, none⟩ = some (.slice none 0 0) ∧ w'.cell? ⟨w.heap.size, 1, none⟩ = some (.int .i64 0) ∧ w'.cell? ⟨w.heap.size, 24, none⟩ = some (.map none) ∧ 
      w'.cell? ⟨w.heap.size, 25, none⟩ = some (.map none) ∧ w'.cell? ⟨w.heap.size, 60, none⟩ = some (.map none) ∧ w'.cell? ⟨b, 6, none⟩ = some (.pointer (some ⟨w.heap.size, 0, none⟩)) ∧ 
      (∀ o, o ≠ 6 → w'.cell? ⟨b, o, none⟩ = w.cell? ⟨b, o, none⟩) ∧ Below b w w' := by
  have hb := World.block_lt_of_cell? w _ h
  simp only at hb
  go_enter Yba.func7, Yba.ntmps7
  go_wp2
  go_ret
  have H := fun cs => fresh_world b w cs h
  exact ⟨rfl, (H _).1 0, (H _).1 1, (H _).1 24, (H _).1 25, (H _).1 60, (H _).2.1, (H _).2.2.1, (H _).2.2.2⟩

/-- The same, as the law's walk wants it: the numbers named, r's other fields told. -/
theorem kept_none' (b N : Nat) (v0 v3 v4 : Value) (w : World) (hN : w.heap.size = N) (h : w.cell? ⟨b, 6, none⟩ = some (.pointer none)) (hf : w.frozen? ⟨b, 6, none⟩ = false)
    (h0 : w.cell? ⟨b, 0, none⟩ = some v0) (h3 : w.cell? ⟨b, 3, none⟩ = some v3) (h4 : w.cell? ⟨b, 4, none⟩ = some v4) :
    Calls Yba.prog 7 #[.pointer (some ⟨b, 0, none⟩)] w fun e w' => e = .returned (.pointer (some ⟨N, 0, none⟩)) ∧
      (w'.cell? ⟨N, 0, none⟩ = some (.slice none 0 0) ∧ w'.cell? ⟨N, 1, none⟩ = some (.int .i64 0) ∧ w'.cell? ⟨N, 24, none⟩ = some (.map none) ∧ 
      w'.cell? ⟨N, 25, none⟩ = some (.map none) ∧ w'.cell? ⟨N, 60, none⟩ = some (.map none)) ∧ w'.cell? ⟨b, 6, none⟩ = some (.pointer (some ⟨N, 0, none⟩)) ∧ 
      w'.cell? ⟨b, 0, none⟩ = some v0 ∧ w'.cell? ⟨b, 3, none⟩ = some v3 ∧ w'.cell? ⟨b, 4, none⟩ = some v4 ∧ Below b w w' := by
  subst hN
  refine (kept_none b w h hf).mono ?_
  rintro e w' ⟨he, c0, c1, c24, c25, c60, c6, ho, hb⟩
  exact ⟨he, ⟨c0, c1, c24, c25, c60⟩, c6, (ho 0 (by decide)).trans h0, (ho 3 (by decide)).trans h3, (ho 4 (by decide)).trans h4, hb⟩

/-- The cells of the first k fields. -/
def flat (ss : List ByteArray) : Nat → List Value
  | 0 => []
  | k + 1 => flat ss k ++ [.string (ss.getD k ByteArray.empty), .string (ss.getD k ByteArray.empty)]

theorem flat_length (ss : List ByteArray) (k : Nat) : (flat ss k).length = k * 2 := by
  induction k with
  | zero => rfl
  | succ k ih => simp [flat, ih]; omega

theorem flat_at (ss : List ByteArray) (k j : Nat) (h : j < k) : (flat ss k)[j * 2]? = some (.string (ss.getD j ByteArray.empty)) ∧ (flat ss k)[j * 2 + 1]? = some (.string (ss.getD j ByteArray.empty)) := by
  induction k with
  | zero => omega
  | succ k ih =>
    by_cases hj : j < k
    · obtain ⟨h1, h2⟩ := ih hj
      have := flat_length ss k
      simp only [flat]
      rw [List.getElem?_append_left (by omega), List.getElem?_append_left (by omega)]
      exact ⟨h1, h2⟩
    · obtain rfl : j = k := by omega
      have := flat_length ss j
      simp only [flat]
      rw [List.getElem?_append_right (by omega), List.getElem?_append_right (by omega)]
      simp [this]

/-- The fields' cells, behind what the call has made since. -/
theorem fields_kept {w wr W : World} {ss : List ByteArray} {k : Nat} (hown : wr.ownsRow w.heap.size 34 2 (.slice (some ⟨w.heap.size, 0, none⟩) k k) k (flat ss k)) (hbel : Below w.heap.size w wr) (hW : Below wr.heap.size wr W) :
    (∀ j, j < k → W.cell? ⟨w.heap.size, j * 2, none⟩ = some (.string (ss.getD j ByteArray.empty)) ∧ W.cell? ⟨w.heap.size, j * 2 + 1, none⟩ = some (.string (ss.getD j ByteArray.empty))) ∧ Below w.heap.size w W := by
  have hlt := (hown.lt w.heap.size rfl).2
  refine ⟨fun j hj => ⟨?_, ?_⟩, hbel.trans (hW.mono hbel.size)⟩
  · rw [hW.cell (by exact hlt), hown.cellAt _ (by omega)]
    exact (flat_at ss k j hj).1
  · rw [hW.cell (by exact hlt), hown.cellAt _ (by omega)]
    exact (flat_at ss k j hj).2

set_option maxRecDepth 100000 in
set_option maxHeartbeats 1000000 in
theorem walk_row (pre : Bool) (u : Int) (fu br : Bool) (b off : Nat) (spot : Option Nat) (len cap : Nat) (ss : List ByteArray) (w : World) (hlen : len ≤ 1024) (hlc : len ≤ ss.length)
    (hspot : 0 < len → spot = none) (hb : 0 < len → b < w.heap.size)
    (hc : ∀ j, j < len → w.cell? ⟨b, off + j, none⟩ = some (.string (ss.getD j ByteArray.empty))) :
    Calls Yba.prog 4 #[.bool pre, .int .i64 u, .bool fu, .bool br, .slice (some ⟨b, off, spot⟩) len cap] w fun e w' => e = .returned (.bool true) ∧ Below w.heap.size w w' := by
  have hnq := neq_same
  have hm55 := neq_map55
  have hm67 := neq_map67
  have hns := fun (w : World) => run_neq_slice_nil_any (P := Yba.prog) w 31 _ (some ⟨b, off, spot⟩) len cap 0 0 Yba.underlying31
  obtain ⟨i0, hi, hz0, hz1, hz2⟩ := info_parts Yba.info34
  go_enter Yba.func4, Yba.ntmps4
  go_wp2_with (at_make; refine wpList_make_own _ rfl _ _ 32 rfl w.heap.size 34 i0 _ 2 Yba.underlying32 hi hz0 hz1 _ _ _ len rfl rfl rfl (by rw [hz2]; omega) (by unfold maxLen; omega) (Nat.le_refl _) ?_; intro w1 hown1 hgrow1)
  go_loopw [11, 29] (fun v i wr => ∃ k : Nat, k ≤ len ∧ i = .int .i64 k ∧ v = .slice (some ⟨w.heap.size, 0, none⟩) k len ∧ wr.ownsRow w.heap.size 34 2 (.slice (some ⟨w.heap.size, 0, none⟩) k len) k (flat ss k) ∧ Below w.heap.size w wr)
    (fun _ i _ => len - (intOf i).toNat)
  case atStart => exact ⟨0, Nat.zero_le _, rfl, rfl, hown1, (Below.refl _ _).grown hgrow1 (Nat.le_refl _) (fun k h => by cases h)⟩
  case round =>
    obtain ⟨k, hk, rfl, rfl, hown, hbel⟩ := hrel
    by_cases hlt : k < len
    · obtain rfl : spot = none := hspot (by omega)
      obtain ⟨s, hs⟩ : ∃ s, s = ss.getD k ByteArray.empty := ⟨_, rfl⟩
      have hcx : wr.cell? ⟨b, off + k, none⟩ = some (.string s) := by rw [hs]; exact (hbel.cell (by exact hb (by omega))).trans (hc k hlt)
      have HS : Hid (s = ss.getD k ByteArray.empty) := hs
      clear hs
      go_wp2_with (at_builtin; refine wpList_append_fits _ rfl (.tmp 33) (.tmp 37) 32 rfl w.heap.size 34 i0 2 Yba.underlying32 hi hz1 w.heap.size k len _ rfl (hown.alloc _) ⟨wr.heap.size, 0, none⟩ 1 1 [.string s, .string s] rfl rfl (cell_two_new _ _ _ _) (by simp [Value.oneCell']) (by omega) ?_; intro w2 hown2 hgrow2)
      go_roundw
      case rel => exact ⟨k + 1, by omega, by go_num, rfl, by rw [flat, ← HS.out]; exact hown2, ((hbel.alloc hbel.size _).grown hgrow2 (by simp; exact Nat.le_succ_of_le hbel.size) (fun k h => by cases h; exact Nat.le_refl _))⟩
      case measure => simp [intOf]; omega
    · obtain rfl : k = len := by omega
      clear hown1 hgrow1 hlt hk
      cases pre
      · go_wp2_with (first | (go_at_call 7; (refine (kept_none' wr.heap.size (wr.heap.size + 1) (.slice (some ⟨w.heap.size, 0, none⟩) k k) (.bool fu) (.bool br) _ (by simp) (World.cell?_alloc_at _ _ _ _ rfl) (World.frozen?_alloc_at _ _ _ _ rfl) (World.cell?_alloc_at _ _ _ _ rfl) (World.cell?_alloc_at _ _ _ _ rfl) (World.cell?_alloc_at _ _ _ _ rfl)).mono ?_); rintro e w2 ⟨rfl, ⟨c0, c1, c24, c25, c60⟩, c6, r0, r3, r4, hbl⟩) | (go_at_call 7; refine (kept_some wr.heap.size ⟨wr.heap.size + 1, 0, none⟩ _ c6).mono ?_; rintro e w3 ⟨rfl, rfl⟩) | fail)
        have HF := fields_kept hown hbel (((Below.refl _ _).alloc (Nat.le_refl _) _).trans hbl)
        have RR0 := r0
        go_loopw [156] (fun i wx => ∃ j : Nat, j ≤ k ∧ i = .int .i64 j ∧ wx.cell? ⟨wr.heap.size, 0, none⟩ = some (.slice (some ⟨w.heap.size, 0, none⟩) k k) ∧ (∀ j, j < k → wx.cell? ⟨w.heap.size, j * 2, none⟩ = some (.string (ss.getD j ByteArray.empty)) ∧ wx.cell? ⟨w.heap.size, j * 2 + 1, none⟩ = some (.string (ss.getD j ByteArray.empty))) ∧ Below w.heap.size w wx)
          (fun i _ => k - (intOf i).toNat)
        case atStart => exact ⟨0, Nat.zero_le _, rfl, RR0, HF.1, HF.2⟩
        case round =>
          obtain ⟨j, hj, rfl, q0, hfs, hbx⟩ := hrel
          by_cases hlt : j < k
          · obtain rfl : spot = none := hspot (by omega)
            obtain ⟨s, hs⟩ : ∃ s, s = ss.getD j ByteArray.empty := ⟨_, rfl⟩
            have hcx : wr.cell? ⟨b, off + j, none⟩ = some (.string s) := by rw [hs]; exact (hbx.cell (by exact hb (by omega))).trans (hc j hlt)
            obtain ⟨hf1, hf2⟩ := hfs j hlt
            rw [← hs] at hf1 hf2
            have HS : Hid (∀ j, j < k → wr.cell? ⟨w.heap.size, j * 2, none⟩ = some (.string (ss.getD j ByteArray.empty)) ∧ wr.cell? ⟨w.heap.size, j * 2 + 1, none⟩ = some (.string (ss.getD j ByteArray.empty))) := hfs
            clear hs hfs
            have hjk : (j : Int) < (k : Int) := by omega
            go_wp2
            go_quiet (fail)
            go_wp2
            go_roundw
            case rel => exact ⟨j + 1, by omega, by go_num, q0, HS.out, below_drewN hbx _⟩
            case measure => simp [intOf]; omega
          · go_wp2
            go_ret
            exact ⟨rfl, hbx⟩
      · go_wp2_with (first | (go_at_call 7; refine (kept_some wr.heap.size ⟨wr.heap.size + 1, 0, none⟩ _ (by simp [World.cell?_alloc_past, World.cell?_alloc_at])).mono ?_; rintro e w3 ⟨rfl, rfl⟩) | fail)
        go_loopw [156] (fun i wx => ∃ j : Nat, j ≤ k ∧ i = .int .i64 j ∧ wx.cell? ⟨wr.heap.size, 0, none⟩ = some (.slice (some ⟨w.heap.size, 0, none⟩) k k) ∧ (∀ j, j < k → wx.cell? ⟨w.heap.size, j * 2, none⟩ = some (.string (ss.getD j ByteArray.empty)) ∧ wx.cell? ⟨w.heap.size, j * 2 + 1, none⟩ = some (.string (ss.getD j ByteArray.empty))) ∧ Below w.heap.size w wx)
          (fun i _ => k - (intOf i).toNat)
        case atStart => exact ⟨0, Nat.zero_le _, rfl, (World.cell?_alloc_past _ _ _ (by simp)).trans (World.cell?_alloc_at _ _ _ _ rfl), fields_kept hown hbel (((Below.refl _ _).alloc (Nat.le_refl _) _).alloc (by simp) _)⟩
        case round =>
          obtain ⟨j, hj, rfl, q0, hfs, hbx⟩ := hrel
          by_cases hlt : j < k
          · obtain rfl : spot = none := hspot (by omega)
            obtain ⟨s, hs⟩ : ∃ s, s = ss.getD j ByteArray.empty := ⟨_, rfl⟩
            have hcx : wr.cell? ⟨b, off + j, none⟩ = some (.string s) := by rw [hs]; exact (hbx.cell (by exact hb (by omega))).trans (hc j hlt)
            obtain ⟨hf1, hf2⟩ := hfs j hlt
            rw [← hs] at hf1 hf2
            have HS : Hid (∀ j, j < k → wr.cell? ⟨w.heap.size, j * 2, none⟩ = some (.string (ss.getD j ByteArray.empty)) ∧ wr.cell? ⟨w.heap.size, j * 2 + 1, none⟩ = some (.string (ss.getD j ByteArray.empty))) := hfs
            clear hs hfs
            have hjk : (j : Int) < (k : Int) := by omega
            go_wp2
            go_quiet (fail)
            go_wp2
            go_roundw
            case rel => exact ⟨j + 1, by omega, by go_num, q0, HS.out, below_drewN hbx _⟩
            case measure => simp [intOf]; omega
          · go_wp2
            go_ret
            exact ⟨rfl, hbx⟩

set_option maxRecDepth 100000 in
set_option maxHeartbeats 1000000 in
theorem walk_nil (pre : Bool) (u : Int) (fu br : Bool) (w : World) :
    Calls Yba.prog 4 #[.bool pre, .int .i64 u, .bool fu, .bool br, .slice none 0 0] w fun e w' => e = .returned (.bool true) ∧ Below w.heap.size w w' := by
  have hnq := neq_same
  have hm55 := neq_map55
  have hm67 := neq_map67
  cases pre
  · go_enter Yba.func4, Yba.ntmps4
    go_wp2_with (first | (go_at_call 7; (refine (kept_none' w.heap.size (w.heap.size + 1) (.slice none 0 0) (.bool fu) (.bool br) _ (by simp) (World.cell?_alloc_at _ _ _ _ rfl) (World.frozen?_alloc_at _ _ _ _ rfl) (World.cell?_alloc_at _ _ _ _ rfl) (World.cell?_alloc_at _ _ _ _ rfl) (World.cell?_alloc_at _ _ _ _ rfl)).mono ?_); rintro e w2 ⟨rfl, ⟨c0, c1, c24, c25, c60⟩, c6, r0, r3, r4, hbl⟩) | (go_at_call 7; refine (kept_some w.heap.size ⟨w.heap.size + 1, 0, none⟩ _ c6).mono ?_; rintro e w3 ⟨rfl, rfl⟩) | fail)
    refine wp_loop_rounds 1 ?_
    rw [rounds_succ]
    go_wp2
    go_ret
    exact ⟨rfl, ((Below.refl _ _).alloc (Nat.le_refl _) _).trans hbl⟩
  · go_enter Yba.func4, Yba.ntmps4
    go_wp2_with (first | (go_at_call 7; refine (kept_some w.heap.size ⟨w.heap.size + 1, 0, none⟩ _ (by simp [World.cell?_alloc_past, World.cell?_alloc_at])).mono ?_; rintro e w3 ⟨rfl, rfl⟩) | fail)
    refine wp_loop_rounds 1 ?_
    rw [rounds_succ]
    go_wp2
    go_ret
    exact ⟨rfl, ((Below.refl _ _).alloc (Nat.le_refl _) _).alloc (by simp) _⟩

set_option maxRecDepth 100000 in
theorem walk_long (pre : Bool) (u : Int) (fu br : Bool) (a : Option Addr) (len cap : Nat) (w : World) (h : 1024 < len) :
    Calls Yba.prog 4 #[.bool pre, .int .i64 u, .bool fu, .bool br, .slice a len cap] w fun e w' => e = .returned (.bool true) ∧ Below w.heap.size w w' := by
  have h' : (1024 : Int) < (len : Int) := by omega
  go_enter Yba.func4, Yba.ntmps4
  go_wp2
  go_ret
  exact ⟨rfl, Below.refl _ _⟩

end Go.Proofs.Ybulkcote.lawS4528CKept
