/-
  THE WALK OF 'LawS4532BMapped'.
-/
import Derived.Test.YbulkcoviAllow
import Derived.WalkSpells
import Derived.WalkLawsBesides
namespace Go.Proofs.Ybulkcovi.lawS4532BMapped
open Go.RowKit Go.Proofs.Ybulkcovi.Seq
set_option linter.unusedVariables false

theorem info3 : (Yba.prog.info? 3).map (fun i => (i.zero, i.size, i.bytes)) = some (some (.int .i64 0), 1, 8) := by kernel_rfl

/-- The row that the law has filled, as the iterator reads it: the counter behind it, then the two boxes. -/
theorem it_start {w wr : World} {len : Nat} {ys : List Int} (hy : ys.length = len) (hown : wr.ownsRow w.heap.size 3 1 (.slice (some ⟨w.heap.size, 0, none⟩) len len) len (ys.map (Value.int .i64))) (hbel : Below w.heap.size w wr) :
    It w w.heap.size (wr.heap.size + 1) (wr.heap.size + 1 + 1) wr.heap.size (some ⟨w.heap.size, 0, none⟩) len len ys (((wr.alloc (.cells #[.int .i64 0] 3)).alloc (.cells #[.slice (some ⟨w.heap.size, 0, none⟩) len len] 22)).alloc (.cells #[.pointer (some ⟨wr.heap.size, 0, none⟩)] 27)) 0 ∧
      Lie (((wr.alloc (.cells #[.int .i64 0] 3)).alloc (.cells #[.slice (some ⟨w.heap.size, 0, none⟩) len len] 22)).alloc (.cells #[.pointer (some ⟨wr.heap.size, 0, none⟩)] 27)).heap.size w.heap.size (wr.heap.size + 1) (wr.heap.size + 1 + 1) wr.heap.size (some ⟨w.heap.size, 0, none⟩) len := by
  have hlt := (hown.lt w.heap.size rfl).2
  have hb : Below wr.heap.size wr (((wr.alloc (.cells #[.int .i64 0] 3)).alloc (.cells #[.slice (some ⟨w.heap.size, 0, none⟩) len len] 22)).alloc (.cells #[.pointer (some ⟨wr.heap.size, 0, none⟩)] 27)) := (((Below.refl _ wr).alloc (Nat.le_refl _) _).alloc (by simp) _).alloc (by simp; omega) _
  refine ⟨⟨?_, ?_, ?_, ?_, ?_, hbel.trans (hb.mono hbel.size)⟩, ⟨by simp, by simp, by simp; omega, by omega, by omega, hbel.size, ?_⟩⟩
  · rw [World.cell?_alloc_past _ _ _ (by simp), World.cell?_alloc_at _ _ _ _ (by simp)]; rfl
  · rw [World.cell?_alloc_at _ _ _ _ (by simp)]; rfl
  · rw [World.cell?_alloc_past _ _ _ (by simp; omega), World.cell?_alloc_past _ _ _ (by simp), World.cell?_alloc_at _ _ _ _ rfl]; rfl
  · have e := World.frozen?_alloc_at (w := wr) #[.int .i64 0] 3 wr.heap.size 0 rfl
    have b1 : Below (wr.heap.size + 1) (wr.alloc (.cells #[.int .i64 0] 3)) (((wr.alloc (.cells #[.int .i64 0] 3)).alloc (.cells #[.slice (some ⟨w.heap.size, 0, none⟩) len len] 22)).alloc (.cells #[.pointer (some ⟨wr.heap.size, 0, none⟩)] 27)) := ((Below.refl _ _).alloc (by simp) _).alloc (by simp) _
    exact (b1.frozen (p := ⟨wr.heap.size, 0, none⟩) (by exact Nat.lt_succ_self _)).trans e
  · intro b off e j hj
    cases e
    rw [hb.cell (p := ⟨w.heap.size, 0 + j, none⟩) hlt, Nat.zero_add, hown.cellAt j (by omega)]
    simp [show j < ys.length by omega]
  · intro h0
    exact ⟨w.heap.size, 0, rfl, by simp; omega, by omega⟩

/-- What the range answers, and how far it goes. -/
theorem out_any {ys : List Int} {len kk : Nat} {r : Bool} (hy : ys.length = len)
    (H : (r = false ∧ kk = len ∧ ∀ y ∈ ys.take len, y ≠ 0) ∨ (r = true ∧ ∃ i, i < len ∧ kk = i + 1 ∧ ∃ q, ys.take (i + 1) = q ++ [0] ∧ ∀ y ∈ q, y ≠ 0)) {b : Bool} (hb : b = true ↔ (0 : Int) ∈ ys) : r = b ∧ kk ≤ len := by
  rw [List.take_of_length_le (by omega)] at H
  rcases H with ⟨h1, h2, h3⟩ | ⟨hr, i, hi, hkk, q, hq, hqn⟩
  · refine ⟨?_, by omega⟩
    cases b
    · exact h1
    · exact absurd rfl (h3 0 (hb.1 rfl))
  · refine ⟨?_, by omega⟩
    have : (0 : Int) ∈ ys := List.mem_of_mem_take (i := i + 1) (by rw [hq]; simp)
    rw [hr, hb.2 this]

theorem made_zero (n : Nat) : (madeCells (Value.int IntKind.i64 0).cells (n * 1)).toList = (List.replicate n (0 : Int)).map (Value.int .i64) := by
  apply List.ext_getElem
  · simp [madeCells]
  · intro i h1 h2
    simp [madeCells, Value.cells, Nat.mod_one]

/-- One store: what is asked of the row behind it. -/
theorem set_step {ys : List Int} {k : Nat} {b : Bool} (v : Int) (hk : k < ys.length) (hb : b = true ↔ (0 : Int) ∈ ys.take k) : ((v == 0) || b) = true ↔ (0 : Int) ∈ (ys.set k v).take (k + 1) := by
  have e : (ys.set k v).take (k + 1) = ys.take k ++ [v] := by
    rw [List.take_succ_eq_append_getElem (by simpa using hk)]
    simp only [List.take_set, List.getElem_set_self, List.append_cancel_right_eq]
    exact List.set_eq_of_length_le (by simp; omega)
  rw [e, Bool.or_eq_true, hb, List.mem_append, List.mem_singleton, beq_iff_eq]
  constructor
  · rintro (h | h)
    · exact .inr h.symm
    · exact .inl h
  · rintro (h | h)
    · exact .inr h
    · exact .inl h.symm

set_option maxRecDepth 100000 in
set_option maxHeartbeats 1000000 in
theorem walk_row (ao : Option Addr) (len cap : Nat) (zs : List Int) (w : World) (hlen : len ≤ 1024) (hz : len ≤ zs.length)
    (hao : 0 < len → ∃ b off, ao = some ⟨b, off, none⟩ ∧ b < w.heap.size ∧ ∀ j, j < len → w.cell? ⟨b, off + j, none⟩ = some (.int .u8 (zs[j]?.getD 0)))
    (hzb : ∀ j : Nat, 0 ≤ zs[j]?.getD 0 ∧ zs[j]?.getD 0 ≤ 255) :
    Calls Yba.prog 4 #[.slice ao len cap] w fun e w' => e = .returned (.bool true) ∧ Below w.heap.size w w' := by
  have HA : Hid (0 < len → ∃ b off, ao = some ⟨b, off, none⟩ ∧ b < w.heap.size ∧ ∀ j, j < len → w.cell? ⟨b, off + j, none⟩ = some (.int .u8 (zs[j]?.getD 0))) := hao
  have HZ : Hid (∀ j : Nat, 0 ≤ zs[j]?.getD 0 ∧ zs[j]?.getD 0 ≤ 255) := hzb
  clear hao hzb
  obtain ⟨i0, hi, hz0, hz1, hz2⟩ := info_parts info3
  go_enter Yba.func4, Yba.ntmps4
  go_wp2_with (at_make; refine wpList_make_full _ rfl _ _ 22 rfl w.heap.size 3 i0 _ 1 Yba.underlying22 hi hz0 hz1 _ _ _ _ len rfl rfl rfl rfl (by rw [hz2]; omega) (by unfold maxLen; omega) (Nat.le_refl _) ?_; intro w1 hown1 hgrow1)
  have hs : ∃ ys : List Int, ys.length = len ∧ w1.ownsRow w.heap.size 3 1 (.slice (some ⟨w.heap.size, 0, none⟩) len len) len (ys.map (Value.int .i64)) := by
    refine ⟨List.replicate len 0, by simp, ?_⟩
    rw [← made_zero]
    exact hown1
  obtain ⟨ys0, hy0, hr0⟩ := hs
  have b0 : Below w.heap.size w w1 := (Below.refl _ _).grown hgrow1 (Nat.le_refl _) (fun k h => by cases h)
  clear hown1 hgrow1
  go_loopw [4, 5] (fun wa i wr => ∃ (k : Nat) (b : Bool) (ys : List Int), k ≤ len ∧ i = .int .i64 k ∧ wa = .bool b ∧ ys.length = len ∧ wr.ownsRow w.heap.size 3 1 (.slice (some ⟨w.heap.size, 0, none⟩) len len) len (ys.map (Value.int .i64)) ∧ Below w.heap.size w wr ∧ (b = true ↔ (0 : Int) ∈ ys.take k))
    (fun _ i _ => len - (intOf i).toNat)
  case atStart => exact ⟨0, false, ys0, Nat.zero_le _, rfl, rfl, hy0, hr0, b0, by simp⟩
  case round =>
    obtain ⟨k, b, ys, hk, rfl, rfl, hy, hr, hbel, hb⟩ := hrel
    clear hr0 b0 hy0
    have HB : Hid (b = true ↔ (0 : Int) ∈ ys.take k) := hb
    clear hb
    by_cases hlt : k < len
    · obtain ⟨ba, off, rfl, hba, hc⟩ := HA.out (by omega)
      have hcx := (hbel.cell (p := ⟨ba, off + k, none⟩) hba).trans (hc k hlt)
      have hzk := HZ.out k
      obtain ⟨z, hzz⟩ : ∃ z, z = zs[k]?.getD 0 := ⟨_, rfl⟩
      rw [← hzz] at hcx hzk
      have hx1 : wr.cell? ⟨w.heap.size, k, none⟩ = some (.int .i64 (ys[k]?.getD 0)) := by rw [hr.cellAt k (by omega)]; simp [show k < ys.length by omega]
      obtain ⟨y, hyy⟩ : ∃ y, y = ys[k]?.getD 0 := ⟨_, rfl⟩
      rw [← hyy] at hx1
      have hx2 : wr.frozen? ⟨w.heap.size, k, none⟩ = false := hr.frozenAt k
      have HR : Hid (ys.length = len ∧ wr.ownsRow w.heap.size 3 1 (.slice (some ⟨w.heap.size, 0, none⟩) len len) len (ys.map (Value.int .i64))) := ⟨hy, hr⟩
      have hki : (k : Int) < (len : Int) := by omega
      clear hc hzz hyy hr hy
      by_cases hev : z % 2 = 0
      · have hev' : (z % 2 == 0) = true := by simpa using hev
        clear hev
        go_wp2
        go_roundw
        case rel =>
          obtain ⟨hy, hr⟩ := HR.out
          refine ⟨k + 1, true, ys.set k 0, by omega, by go_num, rfl, by simpa using hy, by rw [List.map_set]; exact (hr.stored k _).1, hbel.setCell (p := ⟨w.heap.size, k, none⟩) (Nat.le_refl _) _, ?_⟩
          have := set_step 0 (by omega : k < ys.length) HB.out
          simpa using this
        case measure => simp [intOf]; omega
      · have hev' : (z % 2 == 0) = false := by simpa using hev
        clear hev
        go_wp2
        go_roundw
        case rel =>
          obtain ⟨hy, hr⟩ := HR.out
          refine ⟨k + 1, b, ys.set k 1, by omega, by go_num, rfl, by simpa using hy, by rw [List.map_set]; exact (hr.stored k _).1, hbel.setCell (p := ⟨w.heap.size, k, none⟩) (Nat.le_refl _) _, ?_⟩
          have := set_step 1 (by omega : k < ys.length) HB.out
          simpa using this
        case measure => simp [intOf]; omega
    · obtain rfl : k = len := by omega
      obtain ⟨t, L⟩ := it_start hy hr hbel
      have hyl : k ≤ ys.length := by omega
      have HY : Hid (ys.length = k) := hy
      clear hy hr hbel
      go_wp2_with (first
        | (go_at_call 6; refine (seq_any _ k k wr.heap.size _).mono ?_; rintro e w' ⟨rfl, rfl⟩)
        | (go_at_call 5; refine (allow_any _ L hlen hyl t).mono ?_; clear t; rintro e W' ⟨r, kk, rfl, H, t⟩; obtain ⟨rfl, hkk⟩ := out_any HY.out H (by have := HB.out; rwa [List.take_of_length_le (by rw [HY.out]; exact Nat.le_refl _)] at this); have hcc := t.cc; have HC : Hid (Below w.heap.size w W') := t.bel; clear t H L))
      go_ret
      exact ⟨by simp, HC.out⟩

theorem walk_long (a : Option Addr) (len cap : Nat) (w : World) (h : 1024 < len) :
    Calls Yba.prog 4 #[.slice a len cap] w fun e w' => e = .returned (.bool true) ∧ Below w.heap.size w w' := by
  have h' : (1024 : Int) < (len : Int) := by omega
  go_enter Yba.func4, Yba.ntmps4
  go_wp2
  go_ret
  exact ⟨rfl, Below.refl _ _⟩

end Go.Proofs.Ybulkcovi.lawS4532BMapped
