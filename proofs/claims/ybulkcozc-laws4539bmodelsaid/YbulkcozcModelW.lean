/-
  THE WALKS OF 'LawS4539BModel': slices.Clone, slices.Equal (of a slice and its copy), slices.Index, slices.Contains by their contracts; the law.
-/
import Derived.Test.YbulkcozcUntr
import Derived.Deep.AppendLies
import Derived.Deep.QuietTactic
import Derived.BigQuiet
namespace Go.Proofs.Ybulkcozc.lawS4539BModel
open Go.RowKit Go.Proofs.Ybulkcozc.Untr
set_option linter.unusedVariables false

theorem info3 : (Yba.prog.info? 3).map (fun i => (i.zero, i.size, i.bytes)) = some (some (.int .i64 0), 1, 8) := by kernel_rfl

theorem eql_nil (ao : Option Addr) (len cap : Nat) (w : World) : (binOp .eql 22 (.slice ao len cap) (.slice none 0 0)).run Yba.prog w = .ok (.bool ao.isNone) w := Lib.run_eql_slice_nil w 22 3 ao len cap 0 0 Yba.underlying22

/-- slices.Clone of a slice that is not nil. -/
theorem clone_some (x : Addr) (len cap : Nat) (zs : List Int) (w : World) (hlen : len ≤ 1024) (hl : zs.length = len) (hc : ∀ j, j < len → w.cell? (x.add j) = some (.int .i64 (zs[j]?.getD 0))) :
    Calls Yba.prog 5 #[.slice (some x) len cap] w fun e w' => ∃ v, e = .returned v ∧ w'.ownsRow w.heap.size 3 1 v len (zs.map (Value.int .i64)) ∧ Below w.heap.size w w' := by
  have hnl := eql_nil (some x) len cap
  obtain ⟨i0, hi, hz0, hz1, hz2⟩ := info_parts info3
  have HC : Hid (∀ j u, (zs.map (Value.int .i64))[j]? = some u → (w.alloc (.cells #[] 3)).cell? (x.add j) = some u) := by
    intro j u hu
    have hj : j < len := by have := (List.getElem?_eq_some_iff.1 hu).1; simp at this; omega
    refine cell_later ((Below.refl _ w).alloc (Nat.le_refl _) _) ?_
    rw [hc j hj, ← hu]
    simp [show j < zs.length by omega]
  have HL : Hid (zs.length = len) := hl
  clear hc hl
  go_enter Yba.func5, Yba.ntmps5
  go_wp2_with (at_builtin; refine wpList_append_own _ rfl (.tmp 5) (.tmp 6) 22 rfl w.heap.size 3 i0 _ 1 8 Yba.underlying22 hi hz0 hz1 hz2 rfl (by decide) (.slice (some ⟨w.heap.size, 0, none⟩) 0 0) 0 [] rfl (World.ownsRow_made w #[] 0 (Nat.le_refl _) (Nat.zero_le _) rfl) x len cap (zs.map (Value.int .i64)) rfl (by rw [List.length_map, HL.out]; omega) HC.out (ints_oneCell _ _) (by unfold maxLen; omega) (by omega) (by simp) ?_; intro v' w1 hown1 hgrow1 _)
  go_ret
  refine ⟨_, rfl, by simpa using hown1, ?_⟩
  exact ((Below.refl _ w).alloc (Nat.le_refl _) _).grown hgrow1 (by simp) (fun k e => by cases e; exact Nat.le_refl _)

/-- .. and of nil. -/
theorem clone_none (w : World) :
    Calls Yba.prog 5 #[.slice none 0 0] w fun e w' => ∃ v, e = .returned v ∧ w'.ownsRow w.heap.size 3 1 v 0 [] ∧ Below w.heap.size w w' := by
  have hnl := eql_nil none 0 0
  go_enter Yba.func5, Yba.ntmps5
  go_wp2
  go_ret
  exact ⟨_, rfl, World.ownsRow_nil _ _ _ _, Below.refl _ _⟩

/-- slices.Equal of two slices that hold the same numbers. -/
theorem equal_any (a b : Option Addr) (ca cb : Nat) (zs : List Int) (w : World) (hlen : zs.length ≤ 1024) (ha : At w a zs) (hb : At w b zs) :
    Calls Yba.prog 7 #[.slice a zs.length ca, .slice b zs.length cb] w fun e w' => e = .returned (.bool true) ∧ ∃ n, w' = w.drewN n := by
  obtain ⟨len, hl⟩ : ∃ len, len = zs.length := ⟨_, rfl⟩
  have HA : Hid (At w a zs) := ha
  have HB : Hid (At w b zs) := hb
  have HL : Hid (len = zs.length) := hl
  rw [← hl] at hlen ⊢
  clear ha hb hl
  go_enter Yba.func7, Yba.ntmps7
  go_wp2
  go_loopw [13] (fun i wr => ∃ k : Nat, k ≤ len ∧ i = .int .i64 k ∧ ∃ n, wr = w.drewN n) (fun i _ => len - (intOf i).toNat)
  case atStart => exact ⟨0, Nat.zero_le _, rfl, 0, rfl⟩
  case round =>
    obtain ⟨k, hk, rfl, n, rfl⟩ := hrel
    by_cases hlt : k < len
    · obtain ⟨b1, o1, rfl, _, h1⟩ := HA.out (by rw [← HL.out]; omega)
      obtain ⟨b2, o2, rfl, _, h2⟩ := HB.out (by rw [← HL.out]; omega)
      have g1 := h1 k (by rw [← HL.out]; exact hlt)
      have g2 := h2 k (by rw [← HL.out]; exact hlt)
      obtain ⟨z, hz⟩ : ∃ z, z = zs[k]?.getD 0 := ⟨_, rfl⟩
      rw [← hz] at g1 g2
      have hki : (k : Int) < (len : Int) := by omega
      clear h1 h2 hz
      go_wp2
      go_quiet (fail)
      go_wp2
      go_roundw
      case rel => exact ⟨k + 1, by omega, by go_num, _, rfl⟩
      case measure => simp [intOf]; omega
    · go_wp2
      go_ret
      exact ⟨rfl, n, rfl⟩

/-- slices.Index: at least 0 just where it is there. -/
theorem index_any (ao : Option Addr) (cap : Nat) (zs : List Int) (v : Int) (w : World) (hlen : zs.length ≤ 1024) (ha : At w ao zs) :
    Calls Yba.prog 10 #[.slice ao zs.length cap, .int .i64 v] w fun e w' => (∃ i : Int, e = .returned (.int .i64 i) ∧ ((0 ≤ i ∧ v ∈ zs) ∨ (i < 0 ∧ ¬ v ∈ zs))) ∧ w' = w := by
  obtain ⟨len, hl⟩ : ∃ len, len = zs.length := ⟨_, rfl⟩
  have HA : Hid (At w ao zs) := ha
  have HL : Hid (len = zs.length) := hl
  rw [← hl] at hlen ⊢
  clear ha hl
  go_enter Yba.func10, Yba.ntmps10
  go_wp2
  go_loop [8] (fun i => ∃ k : Nat, k ≤ len ∧ i = .int .i64 k ∧ ∀ y ∈ zs.take k, y ≠ v) (fun i => len - (intOf i).toNat)
  case atStart => exact ⟨0, Nat.zero_le _, rfl, by simp⟩
  case round =>
    obtain ⟨k, hk, rfl, hne⟩ := hrel
    have HN : Hid (∀ y ∈ zs.take k, y ≠ v) := hne
    clear hne
    by_cases hlt : k < len
    · obtain ⟨b, off, rfl, hb, hc⟩ := HA.out (by rw [← HL.out]; omega)
      have hcx := hc k (by rw [← HL.out]; exact hlt)
      obtain ⟨z, hz⟩ : ∃ z, z = zs[k]?.getD 0 := ⟨_, rfl⟩
      rw [← hz] at hcx
      have HZ : Hid (z = zs[k]?.getD 0) := hz
      clear hc hz
      by_cases h2 : v = z
      · have h2' : (v == z) = true := by simpa using h2
        have H2 : Hid (v = z) := h2
        clear h2
        go_wp2
        go_ret
        exact ⟨⟨_, rfl, .inl ⟨by omega, mem_at (by rw [← HL.out]; exact hlt) (HZ.out.symm.trans H2.out.symm)⟩⟩, rfl⟩
      · have h2' : (v == z) = false := by simpa using h2
        have H2 : Hid (v ≠ z) := h2
        clear h2
        go_wp2
        go_round
        case rel =>
          refine ⟨k + 1, by omega, by go_num, ?_⟩
          rw [take_snoc zs k (by rw [← HL.out]; exact hlt), ← HZ.out]
          intro y hy
          rcases List.mem_append.1 hy with h | h
          · exact HN.out y h
          · simp at h; subst h; exact fun e => H2.out e.symm
        case measure => simp [intOf]; omega
    · obtain rfl : k = len := by omega
      go_wp2
      go_ret
      have hn := HN.out
      rw [List.take_of_length_le (by rw [HL.out]; exact Nat.le_refl _)] at hn
      exact ⟨⟨_, rfl, .inr ⟨by omega, fun h => hn _ h rfl⟩⟩, rfl⟩

theorem ret_bool {a b : Bool} (h : a = b) : Ending.returned (.bool a) = .returned (.bool b) := by rw [h]

/-- slices.Contains. -/
theorem contains_any (ao : Option Addr) (cap : Nat) (zs : List Int) (v : Int) (w : World) (hlen : zs.length ≤ 1024) (ha : At w ao zs) :
    Calls Yba.prog 8 #[.slice ao zs.length cap, .int .i64 v] w fun e w' => e = .returned (.bool (decide (v ∈ zs))) ∧ w' = w := by
  obtain ⟨m, hm⟩ : ∃ m : Bool, m = decide (v ∈ zs) := ⟨_, rfl⟩
  have HM : Hid (m = decide (v ∈ zs)) := hm
  rw [← hm]
  clear hm
  go_enter Yba.func8, Yba.ntmps8
  go_wp2_with (go_at_call 10; refine (index_any ao cap zs v w hlen ha).mono ?_; rintro e w' ⟨⟨i, rfl, hi⟩, rfl⟩)
  go_ret
  refine ⟨ret_bool ?_, rfl⟩
  rw [HM.out]
  rcases hi with ⟨h1, h2⟩ | ⟨h1, h2⟩
  · simp [h1, h2]
  · simp [h2]; omega

theorem row_at {w : World} {base : Nat} {v : Value} {len : Nat} {zs : List Int} (hl : zs.length = len) (h : w.ownsRow base 3 1 v len (zs.map (Value.int .i64))) : ∃ a c, v = .slice a len c ∧ At w a zs := by
  rcases h.2 with ⟨rfl, rfl⟩ | ⟨g, cap, cur, rfl, _⟩
  · exact ⟨none, 0, rfl, fun h0 => by omega⟩
  · refine ⟨_, cap, rfl, fun h0 => ⟨g, 0, rfl, (h.lt g rfl).2, fun j hj => ?_⟩⟩
    rw [Nat.zero_add, h.cellAt j (by omega)]
    simp [hj]

theorem At.later {w w' : World} {ao : Option Addr} {zs : List Int} (h : At w ao zs) (hb : Below w.heap.size w w') : At w' ao zs := fun h0 => by
  obtain ⟨b, off, e, hlt, hc⟩ := h h0
  exact ⟨b, off, e, Nat.lt_of_lt_of_le hlt hb.size, fun j hj => (hb.cell (p := ⟨b, off + j, none⟩) hlt).trans (hc j hj)⟩

theorem At.draws {w : World} {ao : Option Addr} {zs : List Int} (h : At w ao zs) (n : Nat) : At (w.drewN n) ao zs := h

theorem un_true {zs : List Int} (h : (-2 : Int) ∈ zs) : un zs = -2 := by simp [un, h]
theorem un_false {zs : List Int} (h : ¬ (-2 : Int) ∈ zs) : un zs = -4 := by simp [un, h]

set_option maxRecDepth 100000 in
set_option maxHeartbeats 1000000 in
theorem walk_row (ao : Option Addr) (cap : Nat) (zs : List Int) (w : World) (hlen : zs.length ≤ 1024) (ha : At w ao zs)
    (hclone : Calls Yba.prog 5 #[.slice ao zs.length cap] w fun e w' => ∃ v, e = .returned v ∧ w'.ownsRow w.heap.size 3 1 v zs.length (zs.map (Value.int .i64)) ∧ Below w.heap.size w w') :
    Calls Yba.prog 3 #[.slice ao zs.length cap] w fun e w' => e = .returned (.bool true) ∧ Below w.heap.size w w' := by
  by_cases hm : (-2 : Int) ∈ zs
  · go_enter Yba.func3, Yba.ntmps3
    go_wp2_with (first
      | (go_at_call 5; refine hclone.mono ?_; clear hclone; rintro e w1 ⟨v, rfl, hr, hb⟩; obtain ⟨a2, c2, rfl, ha2⟩ := row_at rfl hr; have ha1 := At.later ha hb; clear hr ha)
      | (go_at_call 6; refine (untr_any ao cap zs w1 hlen ha1).mono ?_; rintro e w' ⟨rfl, rfl⟩; rw [un_true hm])
      | (go_at_call 7; refine (equal_any a2 ao c2 cap zs _ hlen ha2 ha1).mono ?_; rintro e w' ⟨rfl, n, rfl⟩)
      | (go_at_call 8; refine (contains_any a2 c2 zs (-2) _ hlen (At.draws ha2 _)).mono ?_; rintro e w' ⟨rfl, rfl⟩; rw [decide_eq_true hm]))
    go_ret
    exact ⟨rfl, below_drewN hb _⟩
  · go_enter Yba.func3, Yba.ntmps3
    go_wp2_with (first
      | (go_at_call 5; refine hclone.mono ?_; clear hclone; rintro e w1 ⟨v, rfl, hr, hb⟩; obtain ⟨a2, c2, rfl, ha2⟩ := row_at rfl hr; have ha1 := At.later ha hb; clear hr ha)
      | (go_at_call 6; refine (untr_any ao cap zs w1 hlen ha1).mono ?_; rintro e w' ⟨rfl, rfl⟩; rw [un_false hm])
      | (go_at_call 7; refine (equal_any a2 ao c2 cap zs _ hlen ha2 ha1).mono ?_; rintro e w' ⟨rfl, n, rfl⟩)
      | (go_at_call 8; refine (contains_any a2 c2 zs (-2) _ hlen (At.draws ha2 _)).mono ?_; rintro e w' ⟨rfl, rfl⟩; rw [decide_eq_false hm]))
    go_ret
    exact ⟨rfl, below_drewN hb _⟩

theorem walk_long (a : Option Addr) (len cap : Nat) (w : World) (h : 1024 < len) :
    Calls Yba.prog 3 #[.slice a len cap] w fun e w' => e = .returned (.bool true) ∧ Below w.heap.size w w' := by
  have h' : (1024 : Int) < (len : Int) := by omega
  go_enter Yba.func3, Yba.ntmps3
  go_wp2
  go_ret
  exact ⟨rfl, Below.refl _ _⟩

end Go.Proofs.Ybulkcozc.lawS4539BModel
