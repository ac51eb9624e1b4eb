/-
  THE WALK OF 'LawS4532BExists'.
-/
import Derived.Test.YbulkcoviAllow
import Derived.WalkSpells
import Derived.WalkLawsBesides
namespace Go.Proofs.Ybulkcovi.lawS4532BExists
open Go.RowKit Go.Proofs.Ybulkcovi.Seq
set_option linter.unusedVariables false

/-- The iterator's memory as the law lays it: the counter at B, the boxes behind it. -/
theorem it_start (w : World) (ao : Option Addr) (len cap : Nat) (zs : List Int)
    (hao : 0 < len → ∃ b off, ao = some ⟨b, off, none⟩ ∧ b < w.heap.size ∧ ∀ j, j < len → w.cell? ⟨b, off + j, none⟩ = some (.int .i64 (zs[j]?.getD 0))) :
    It w w.heap.size (w.heap.size + 1) (w.heap.size + 1 + 1) w.heap.size ao len cap zs (((w.alloc (.cells #[.int .i64 0] 3)).alloc (.cells #[.slice ao len cap] 22)).alloc (.cells #[.pointer (some ⟨w.heap.size, 0, none⟩)] 27)) 0 ∧
      Lie (((w.alloc (.cells #[.int .i64 0] 3)).alloc (.cells #[.slice ao len cap] 22)).alloc (.cells #[.pointer (some ⟨w.heap.size, 0, none⟩)] 27)).heap.size w.heap.size (w.heap.size + 1) (w.heap.size + 1 + 1) w.heap.size ao len := by
  have hb : Below w.heap.size w (((w.alloc (.cells #[.int .i64 0] 3)).alloc (.cells #[.slice ao len cap] 22)).alloc (.cells #[.pointer (some ⟨w.heap.size, 0, none⟩)] 27)) := (((Below.refl _ w).alloc (Nat.le_refl _) _).alloc (by simp) _).alloc (by simp; omega) _
  refine ⟨⟨?_, ?_, ?_, ?_, ?_, hb⟩, ⟨by simp, by simp, by simp; omega, by omega, by omega, Nat.le_refl _, ?_⟩⟩
  · rw [World.cell?_alloc_past _ _ _ (by simp), World.cell?_alloc_at _ _ _ _ (by simp)]; rfl
  · rw [World.cell?_alloc_at _ _ _ _ (by simp)]; rfl
  · rw [World.cell?_alloc_past _ _ _ (by simp; omega), World.cell?_alloc_past _ _ _ (by simp), World.cell?_alloc_at _ _ _ _ rfl]; rfl
  · have e := World.frozen?_alloc_at (w := w) #[.int .i64 0] 3 w.heap.size 0 rfl
    have b1 : Below (w.heap.size + 1) (w.alloc (.cells #[.int .i64 0] 3)) (((w.alloc (.cells #[.int .i64 0] 3)).alloc (.cells #[.slice ao len cap] 22)).alloc (.cells #[.pointer (some ⟨w.heap.size, 0, none⟩)] 27)) := ((Below.refl _ _).alloc (by simp) _).alloc (by simp) _
    exact (b1.frozen (p := ⟨w.heap.size, 0, none⟩) (by exact Nat.lt_succ_self _)).trans e
  · intro b off e j hj
    obtain ⟨b', off', e', hb', hc⟩ := hao (by omega)
    rw [e] at e'
    cases e'
    exact (hb.cell (p := ⟨b, off + j, none⟩) hb').trans (hc j hj)
  · intro h0
    obtain ⟨b, off, e, hb', _⟩ := hao h0
    exact ⟨b, off, e, by simp; omega, by omega⟩

set_option maxRecDepth 100000 in
set_option maxHeartbeats 1000000 in
theorem walk_row (ao : Option Addr) (len cap : Nat) (zs : List Int) (w : World) (hlen : len ≤ 1024) (hz : len ≤ zs.length)
    (hao : 0 < len → ∃ b off, ao = some ⟨b, off, none⟩ ∧ b < w.heap.size ∧ ∀ j, j < len → w.cell? ⟨b, off + j, none⟩ = some (.int .i64 (zs[j]?.getD 0))) :
    Calls Yba.prog 3 #[.slice ao len cap] w fun e w' => e = .returned (.bool true) ∧ Below w.heap.size w w' := by
  obtain ⟨t, L⟩ := it_start w ao len cap zs hao
  have HA : Hid (0 < len → ∃ b off, ao = some ⟨b, off, none⟩ ∧ b < w.heap.size ∧ ∀ j, j < len → w.cell? ⟨b, off + j, none⟩ = some (.int .i64 (zs[j]?.getD 0))) := hao
  clear hao
  go_enter Yba.func3, Yba.ntmps3
  go_wp2
  go_loop [3, 4, 5] (fun wa wc i => ∃ k : Nat, k ≤ len ∧ i = .int .i64 k ∧ wa = .bool false ∧ wc = .int .i64 len ∧ ∀ y ∈ zs.take k, y ≠ 0) (fun _ _ i => len - (intOf i).toNat)
  case atStart => exact ⟨0, Nat.zero_le _, rfl, rfl, rfl, by simp⟩
  case round =>
    obtain ⟨k, hk, rfl, rfl, rfl, hne⟩ := hrel
    have HN : Hid (∀ y ∈ zs.take k, y ≠ 0) := hne
    clear hne
    by_cases hlt : k < len
    · obtain ⟨b, off, rfl, hb, hc⟩ := HA.out (by omega)
      have hcx := hc k hlt
      obtain ⟨z, hzk⟩ : ∃ z, z = zs[k]?.getD 0 := ⟨_, rfl⟩
      rw [← hzk] at hcx
      have HZ : Hid (z = zs[k]?.getD 0) := hzk
      clear hc hzk
      by_cases hz0 : z = 0
      · have hz0' : (z == 0) = true := by simpa using hz0
        have H0 : Hid (z = 0) := hz0
        clear hz0
        go_wp2_with (first
          | (go_at_call 6; refine (seq_any _ len cap w.heap.size _).mono ?_; rintro e w' ⟨rfl, rfl⟩)
          | (go_at_call 5; refine (allow_any _ L hlen hz t).mono ?_; clear t; rintro e W' ⟨r, kk, rfl, H, t⟩; obtain ⟨rfl, rfl⟩ := out_yes hlt hz (by rw [← HZ.out]; exact H0.out) HN.out H; have hcc := t.cc; have HB : Hid (Below w.heap.size w W') := t.bel; clear t H L))
        go_ret
        exact ⟨by simp, HB.out⟩
      · have hz0' : (z == 0) = false := by simpa using hz0
        have H0 : Hid (z ≠ 0) := hz0
        clear hz0
        go_wp2
        go_round
        case rel =>
          refine ⟨k + 1, by omega, by go_num, rfl, rfl, ?_⟩
          rw [take_snoc zs k (by omega), ← HZ.out]
          intro y hy
          rcases List.mem_append.1 hy with h | h
          · exact HN.out y h
          · simp at h; subst h; exact H0.out
        case measure => simp [intOf]; omega
    · obtain rfl : k = len := by omega
      go_wp2_with (first
        | (go_at_call 6; refine (seq_any _ k cap w.heap.size _).mono ?_; rintro e w' ⟨rfl, rfl⟩)
        | (go_at_call 5; refine (allow_any _ L hlen hz t).mono ?_; clear t; rintro e W' ⟨r, kk, rfl, H, t⟩; obtain ⟨rfl, rfl⟩ := out_no HN.out H; have hcc := t.cc; have HB : Hid (Below w.heap.size w W') := t.bel; clear t H L))
      go_ret
      exact ⟨by simp, HB.out⟩

theorem walk_long (a : Option Addr) (len cap : Nat) (w : World) (h : 1024 < len) :
    Calls Yba.prog 3 #[.slice a len cap] w fun e w' => e = .returned (.bool true) ∧ Below w.heap.size w w' := by
  have h' : (1024 : Int) < (len : Int) := by omega
  go_enter Yba.func3, Yba.ntmps3
  go_wp2
  go_ret
  exact ⟨rfl, Below.refl _ _⟩

end Go.Proofs.Ybulkcovi.lawS4532BExists
