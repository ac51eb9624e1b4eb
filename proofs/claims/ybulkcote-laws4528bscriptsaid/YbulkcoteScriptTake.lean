/-
  THE TWO METHODS OF stock[int] BY THEIR CONTRACTS, over the invariant of YbulkcoteScriptInv.
-/
import Derived.Test.YbulkcoteScriptInv
import Derived.WalkLawsBesides
import Derived.Deep.QuietTactic
import Derived.BigQuiet
namespace Go.Proofs.Ybulkcote.lawS4528BScript
open Go.RowKit
set_option linter.unusedVariables false

theorem Yba.info28 : (Yba.prog.info? 28).map (fun i => (i.zero, i.size, i.bytes)) = some (some (.pointer none), 1, 8) := by kernel_rfl
theorem Yba.info3 : (Yba.prog.info? 3).map (fun i => (i.zero, i.size, i.bytes)) = some (some (.int .i64 0), 1, 8) := by kernel_rfl

section
variable {B : Nat} {w wr : World} {vi vf vh : Value} {ps fs : List Nat} {hs ks : List Int} {u : Nat}

theorem restock_any (I : Inv B w wr vi vf vh ps hs fs ks u) :
    Calls Yba.prog 5 #[.pointer (some ⟨B, 0, none⟩)] wr fun e w' => e = .returned (.tuple #[]) ∧ Inv B w w' vi vf vh ps hs fs ks 0 := by
  have h1 := I.c1
  have h2 := I.f1
  have R := I.used 0
  have HI : Hid (Inv B w (wr.setCell ⟨B, 1, none⟩ (.int .i64 (0 : Nat))) vi vf vh ps hs fs ks 0) := R
  clear R I
  go_enter Yba.func5, Yba.ntmps5
  go_wp2
  go_end0
  exact ⟨rfl, HI.out⟩

theorem row_form {w : World} {base e n : Nat} {v : Value} {xs : List Value} (h : w.ownsRow base e 1 v n xs) : ∃ ao cap, v = .slice ao n cap ∧ (0 < n → ∃ g, ao = some ⟨g, 0, none⟩) := by
  rcases h.2 with ⟨rfl, rfl⟩ | ⟨g, cap, _, rfl, _⟩
  · exact ⟨none, 0, rfl, fun h => by omega⟩
  · exact ⟨_, cap, rfl, fun _ => ⟨g, rfl⟩⟩

theorem grownBy_draws (w : World) (n : Nat) : w.grownBy (w.drewN n) none := ⟨rfl, rfl, rfl, Nat.le_refl _, fun _ _ _ => rfl⟩

/-- A number that was handed out before. -/
theorem take_old (I : Inv B w wr vi vf vh ps hs fs ks u) (hu : u < ps.length) (hs1 : ps.length ≤ 1024) :
    Calls Yba.prog 6 #[.pointer (some ⟨B, 0, none⟩)] wr fun e w' => e = .returned (.pointer (some ⟨ps.getD u 0, 0, none⟩)) ∧ Inv B w w' vi vf vh ps hs fs ks (u + 1) := by
  obtain ⟨g, cap, rfl, hg1, hg2⟩ := I.ri.form (by omega)
  have h0 := I.c0
  have h1 := I.c1
  have hf1 := I.f1
  have hc : wr.cell? ⟨g, u, none⟩ = some (.pointer (some ⟨ps.getD u 0, 0, none⟩)) := by rw [I.ri.cellAt u (by omega)]; exact ptrs_at ps u hu
  obtain ⟨pp, hpp⟩ : ∃ pp, pp = ps.getD u 0 := ⟨_, rfl⟩
  rw [← hpp] at hc ⊢
  have HI : Hid (Inv B w wr (.slice (some ⟨g, 0, none⟩) ps.length cap) vf vh ps hs fs ks u) := I
  have hne : ((u : Int) == (ps.length : Int)) = false := by simp; omega
  have hlt : (u : Int) < (ps.length : Int) := by omega
  obtain ⟨n, hn⟩ : ∃ n, n = ps.length := ⟨_, rfl⟩
  rw [← hn] at h0 hne hlt hu hs1
  clear I hpp hn
  go_enter Yba.func6, Yba.ntmps6
  go_wp2
  go_quiet (fail)
  go_wp2
  go_quiet (fail)
  go_wp2
  go_ret
  exact ⟨rfl, ((HI.out.grow (grownBy_draws _ _)).used (u + 1))⟩

/-- The field's cell ahead of the store. -/
theorem items_cell (I : Inv B w wr vi vf vh ps hs fs ks u) {w3 : World}
    (hg : ((wr.alloc (.cells #[.int .i64 0] 3)).alloc (.cells #[.pointer (some ⟨wr.heap.size, 0, none⟩)] 28)).grownBy w3 vi.ownBlock) : w3.cell? ⟨B, 0, none⟩ = some vi ∧ w3.frozen? ⟨B, 0, none⟩ = false := by
  have n1 : vi.ownBlock ≠ some B := fun e => by have := (I.ri.lt B e).1; omega
  have I2 : Inv B w ((wr.alloc (.cells #[.int .i64 0] 3)).alloc (.cells #[.pointer (some ⟨wr.heap.size, 0, none⟩)] 28)) vi vf vh ps hs fs ks u := (I.grow (World.grownBy_alloc _ _ _)).grow (World.grownBy_alloc _ _ _)
  obtain ⟨a, b, c, d⟩ := I2.stock hg (fun e => n1 e.symm)
  exact ⟨a, c⟩

/-- A new number. -/
theorem take_new (I : Inv B w wr vi vf vh ps hs fs ks ps.length) (hs1 : ps.length ≤ 1024) :
    Calls Yba.prog 6 #[.pointer (some ⟨B, 0, none⟩)] wr fun e w' => ∃ q vi', e = .returned (.pointer (some ⟨q, 0, none⟩)) ∧ Inv B w w' vi' vf vh (ps ++ [q]) (hs ++ [0]) fs ks (ps.length + 1) := by
  obtain ⟨ao, cap0, rfl, hao⟩ := row_form I.ri
  have h0 := I.c0
  have h1 := I.c1
  have hf1 := I.f1
  have hf0 := I.f0
  obtain ⟨i0, hi, hz0, hz1, hz2⟩ := info_parts Yba.info28
  obtain ⟨n, hn⟩ : ∃ n, n = ps.length := ⟨_, rfl⟩
  rw [← hn] at h0 h1
  have Hn : Hid (n = ps.length) := hn
  clear hn
  have hn2 : n ≤ 1024 := by rw [Hn.out]; exact hs1
  have HI : Hid (Inv B w wr (.slice ao ps.length cap0) vf vh ps hs fs ks ps.length) := I
  clear I hao hs1
  go_enter Yba.func6, Yba.ntmps6
  go_wp2
  go_quiet (fail)
  have HJ : Hid (Inv B w (wr.drewN nq) (.slice ao ps.length cap0) vf vh ps hs fs ks ps.length) := HI.out.grow (grownBy_draws _ _)
  clear h0 h1 hf1 hf0 HI
  generalize wr.drewN nq = W at *
  obtain rfl := Hn.out
  have hnum : ps.length + 1 ≤ 1025 := by omega
  have I := HJ.out
  have h0 := I.c0
  have h1 := I.c1
  have hf1 := I.f1
  have hf0 := I.f0
  have hsz := I.lt
  have hown := (I.ri.alloc (.cells #[.int .i64 0] 3)).alloc (.cells #[.pointer (some ⟨W.heap.size, 0, none⟩)] 28)
  clear I
  go_wp2_with (at_builtin; (refine wpList_append_lies _ rfl (.tmp 18) (.tmp 20) 24 rfl (B + 1) 28 i0 _ 1 8 Yba.underlying24 hi hz0 hz1 hz2 rfl (by decide) (.slice ao ps.length cap0) _ _ rfl hown ⟨W.heap.size + 1, 0, none⟩ 1 1 [.pointer (some ⟨W.heap.size, 0, none⟩)] rfl rfl (by simpa using cell_one_new (W.alloc (.cells #[.int .i64 0] 3)) (.pointer (some ⟨W.heap.size, 0, none⟩)) 28) (by simp [Value.oneCell']) (by decide) (by unfold maxLen; omega) (by omega) (by simp; omega) (W.heap.size + 1 + 1) (by simp) ?_); intro g cap w1 hown1 hgrow1 hat hlt; obtain ⟨hx0, hx1⟩ := items_cell HJ.out hgrow1; have HR : Hid (Inv B w (w1.setCell ⟨B, 0, none⟩ (.slice (some ⟨g, 0, none⟩) (ps.length + 1) cap)) (.slice (some ⟨g, 0, none⟩) (ps.length + 1) cap) vf vh (ps ++ [W.heap.size]) (hs ++ [0]) fs ks ps.length) := HJ.out.items hown1 hgrow1 hat; clear hown1 hgrow1 hat hlt h0 h1 hf0 hf1 hown)
  clear hx0 hx1
  generalize w1.setCell ⟨B, 0, none⟩ (.slice (some ⟨g, 0, none⟩) (ps.length + 1) cap) = W4 at *
  have I4 := HR.out
  have h0 := I4.c0
  have h1 := I4.c1
  have hf1 := I4.f1
  have hri : W4.ownsRow (B + 1) 28 1 (.slice (some ⟨g, 0, none⟩) (ps.length + 1) cap) (ps.length + 1) (ptrs (ps ++ [W.heap.size])) := by have := I4.ri; rw [List.length_append] at this; exact this
  have hc : W4.cell? ⟨g, ps.length, none⟩ = some (.pointer (some ⟨W.heap.size, 0, none⟩)) := by
    rw [hri.cellAt ps.length (by omega), ptrs_at _ _ (by simp)]
    simp [List.getD]
  have hlt : (ps.length : Int) < ((ps.length + 1 : Nat) : Int) := by omega
  clear I4 hri
  go_quiet (fail)
  go_wp2
  go_ret
  exact ⟨_, _, rfl, ((HR.out.grow (grownBy_draws _ _)).used (ps.length + 1))⟩
end
end Go.Proofs.Ybulkcote.lawS4528BScript
