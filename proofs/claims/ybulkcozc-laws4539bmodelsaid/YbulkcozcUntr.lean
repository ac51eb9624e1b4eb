/-
  'untraced' BY ITS CONTRACT: over any slice of ints that can be read: -2 where -2 is among them, else -4; nothing turns.
-/
import Derived.Test.YbulkcozcRows
import Derived.WalkKit
import Derived.WalkSpells
import Derived.WalkLawsBesides
namespace Go.Proofs.Ybulkcozc.Untr
open Go.RowKit
set_option linter.unusedVariables false

theorem take_snoc (zs : List Int) (k : Nat) (h : k < zs.length) : zs.take (k + 1) = zs.take k ++ [zs[k]?.getD 0] := by
  rw [List.take_succ_eq_append_getElem h]
  simp [h]

/-- The slice's elements are zs. -/
def At (w : World) (ao : Option Addr) (zs : List Int) : Prop :=
  0 < zs.length → ∃ b off, ao = some ⟨b, off, none⟩ ∧ b < w.heap.size ∧ ∀ j, j < zs.length → w.cell? ⟨b, off + j, none⟩ = some (.int .i64 (zs[j]?.getD 0))

def un (zs : List Int) : Int := if (-2 : Int) ∈ zs then -2 else -4

theorem mem_at {zs : List Int} {k : Nat} {z : Int} (hk : k < zs.length) (h : zs[k]?.getD 0 = z) : z ∈ zs := by
  rw [← h]
  simp [hk]

set_option maxHeartbeats 400000 in
theorem untr_any (ao : Option Addr) (cap : Nat) (zs : List Int) (w : World) (hlen : zs.length ≤ 1024) (ha : At w ao zs) :
    Calls Yba.prog 6 #[.slice ao zs.length cap] w fun e w' => e = .returned (.int .i64 (un zs)) ∧ w' = w := by
  obtain ⟨len, hl⟩ : ∃ len, len = zs.length := ⟨_, rfl⟩
  have HA : Hid (At w ao zs) := ha
  have HL : Hid (len = zs.length) := hl
  rw [← hl] at hlen ⊢
  clear ha hl
  go_enter Yba.func6, Yba.ntmps6
  go_wp2
  go_loop [7] (fun i => ∃ k : Nat, k ≤ len ∧ i = .int .i64 k ∧ ∀ y ∈ zs.take k, y ≠ -2) (fun i => len - (intOf i).toNat)
  case atStart => exact ⟨0, Nat.zero_le _, rfl, by simp⟩
  case round =>
    obtain ⟨k, hk, rfl, hne⟩ := hrel
    have HN : Hid (∀ y ∈ zs.take k, y ≠ -2) := hne
    clear hne
    by_cases hlt : k < len
    · obtain ⟨b, off, rfl, hb, hc⟩ := HA.out (by rw [← HL.out]; omega)
      have hcx := hc k (by rw [← HL.out]; exact hlt)
      obtain ⟨z, hz⟩ : ∃ z, z = zs[k]?.getD 0 := ⟨_, rfl⟩
      rw [← hz] at hcx
      have HZ : Hid (z = zs[k]?.getD 0) := hz
      clear hc hz
      by_cases h2 : z = -2
      · have h2' : (z == -2) = true := by simpa using h2
        have H2 : Hid (z = -2) := h2
        clear h2
        go_wp2
        go_ret
        have hm : (-2 : Int) ∈ zs := mem_at (by rw [← HL.out]; exact hlt) (HZ.out.symm.trans H2.out)
        refine ⟨?_, rfl⟩
        simp [un, hm]
      · have h2' : (z == -2) = false := by simpa using h2
        have H2 : Hid (z ≠ -2) := h2
        clear h2
        go_wp2
        go_round
        case rel =>
          refine ⟨k + 1, by omega, by go_num, ?_⟩
          rw [take_snoc zs k (by rw [← HL.out]; exact hlt), ← HZ.out]
          intro y hy
          rcases List.mem_append.1 hy with h | h
          · exact HN.out y h
          · simp at h; subst h; exact H2.out
        case measure => simp [intOf]; omega
    · obtain rfl : k = len := by omega
      go_wp2
      go_ret
      refine ⟨?_, rfl⟩
      have hn := HN.out
      rw [List.take_of_length_le (by rw [HL.out]; exact Nat.le_refl _)] at hn
      have hm : ¬ (-2 : Int) ∈ zs := fun h => hn _ h rfl
      simp [un, hm]

end Go.Proofs.Ybulkcozc.Untr
