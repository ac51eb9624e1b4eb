/-
  THE WALK OF 'LawS4528BScript'.
-/
import Derived.Test.YbulkcoteScriptTake
import Derived.LaidEqlPtr
namespace Go.Proofs.Ybulkcote.lawS4528BScript
open Go.RowKit
set_option linter.unusedVariables false

theorem Yba.size3 : (Yba.prog.info? 3).map (·.size) = some 1 := by kernel_rfl

/-- 'p != q' where both are one pointer that is not nil. -/
theorem neq_same (a : Addr) (w : World) : (binOp .neq 28 (.pointer (some a)) (.pointer (some a))).run Yba.prog w = .ok (.bool false) w := by
  obtain ⟨j, hj, hjs⟩ := Option.map_eq_some_iff.1 Yba.size3
  have h : ∀ d : Nat, (Op.equalIn (d + 1) 28 (.pointer (some a)) (.pointer (some a))).run Yba.prog w = .ok true w := fun d => by
    simp [Op.equalIn, run_underlying Yba.underlying28, sizeOf, typeInfo, hj, run_sameAddr_same]
  simp only [binOp]
  simp [Op.equal, Op.maxDepth, h 9999]

/-- 'q == p' where they are two numbers. -/
theorem eql_other (p q : Nat) (x y : Value) (w : World) (hne : p ≠ q) (hp : w.heap[p]? = some (.cells #[x] 3 (0, 0))) (hq : w.heap[q]? = some (.cells #[y] 3 (0, 0))) :
    (binOp .eql 28 (.pointer (some ⟨p, 0, none⟩)) (.pointer (some ⟨q, 0, none⟩))).run Yba.prog w = .ok (.bool false) w := by
  obtain ⟨j, hj, hjs⟩ := Option.map_eq_some_iff.1 Yba.size3
  exact run_eql_ptr_other w Yba.underlying28 hj (by rw [hjs]; decide) (by simp only [ne_eq, Addr.mk.injEq]; omega) hp hq

section
variable {B : Nat} {w wr : World} {vi vf vh : Value} {ps fs : List Nat} {hs ks : List Int} {u : Nat}

/-- What the round reads and writes of the j-th number. -/
theorem facts {gf cf gh ch j n : Nat} (I : Inv B w wr vi (.slice (some ⟨gf, 0, none⟩) n cf) (.slice (some ⟨gh, 0, none⟩) n ch) ps hs ps hs u) (hn : ps.length = n) (hj : j < n) :
    wr.cell? ⟨gf, j, none⟩ = some (.pointer (some ⟨ps.getD j 0, 0, none⟩)) ∧ wr.cell? ⟨ps.getD j 0, 0, none⟩ = some (.int .i64 (hs.getD j 0)) ∧ wr.frozen? ⟨ps.getD j 0, 0, none⟩ = false ∧
      wr.cell? ⟨gh, j, none⟩ = some (.int .i64 (hs.getD j 0)) ∧ wr.frozen? ⟨gh, j, none⟩ = false ∧ gh ≠ ps.getD j 0 := by
  subst hn
  obtain ⟨h1, h2⟩ := I.cellP hj
  have hl := I.pl
  refine ⟨?_, h1, h2, ?_, ?_, ?_⟩
  · rw [I.rf.cellAt j (by omega)]; exact ptrs_at ps j hj
  · have r := I.rh
    rw [hl] at r
    rw [r.cellAt j (by omega)]; exact ints_at' hs j (by omega)
  · have r := I.rh
    rw [hl] at r
    exact r.frozenAt j
  · intro e
    exact I.dh gh rfl (by rw [e]; exact getD_mem hj)

/-- The two stores of the round. -/
theorem stored {gh ch j : Nat} {n : Nat} (I : Inv B w wr vi vf (.slice (some ⟨gh, 0, none⟩) n ch) ps hs fs hs u) (hn : ps.length = n) (hj : j < n) (x : Int) :
    Inv B w ((wr.setCell ⟨ps.getD j 0, 0, none⟩ (.int .i64 x)).setCell ⟨gh, j, none⟩ (.int .i64 x)) vi vf (.slice (some ⟨gh, 0, none⟩) n ch) ps (hs.set j x) fs (hs.set j x) u := by
  subst hn
  have I1 := I.storeP hj x
  rw [← I.pl] at I1
  have I2 := I1.storeK j x
  rwa [List.length_set, I.pl] at I2

/-- The j-th of the firsts, and that it is not the new one. -/
theorem facts2 {gf cf j n q : Nat} (I : Inv B w wr vi (.slice (some ⟨gf, 0, none⟩) n cf) vh (ps ++ [q]) (hs ++ [0]) ps hs u) (hn : n = ps.length) (hj : j < n) :
    wr.cell? ⟨gf, j, none⟩ = some (.pointer (some ⟨ps.getD j 0, 0, none⟩)) ∧
      (binOp .eql 28 (.pointer (some ⟨ps.getD j 0, 0, none⟩)) (.pointer (some ⟨q, 0, none⟩))).run Yba.prog wr = .ok (.bool false) wr := by
  subst hn
  refine ⟨by rw [I.rf.cellAt j (by omega)]; exact ptrs_at ps j hj, ?_⟩
  have h1 := I.ph j (by simp; omega)
  have h2 := I.ph ps.length (by simp)
  have e1 : (ps ++ [q]).getD j 0 = ps.getD j 0 := by simp [List.getD, List.getElem?_append_left hj]
  have e2 : (ps ++ [q]).getD ps.length 0 = q := by simp [List.getD]
  rw [e1] at h1
  rw [e2] at h2
  refine eql_other _ _ _ _ wr ?_ h1 h2
  intro e
  have := I.nd
  rw [List.nodup_append] at this
  exact this.2.2 _ (getD_mem hj) q (by simp) e

theorem firsts' {n cf : Nat} {af : Option Addr} {o : Obj} (I : Inv B w wr vi (.slice af n cf) vh ps hs fs ks u) (hn : n = fs.length) {q g cap : Nat} {w1 : World}
    (hown : w1.ownsRow (B + 1) 28 1 (.slice (some ⟨g, 0, none⟩) (n + 1) cap) (n + 1) (ptrs fs ++ [.pointer (some ⟨q, 0, none⟩)])) (hg : (wr.alloc o).grownBy w1 (Value.slice af n cf).ownBlock)
    (hat : (Value.slice af n cf).ownBlock = some g ∨ g = (wr.alloc o).heap.size) : Inv B w w1 vi (.slice (some ⟨g, 0, none⟩) (n + 1) cap) vh ps hs (fs ++ [q]) ks u := by
  subst hn
  exact (I.grow (World.grownBy_alloc _ _ _)).firsts hown hg hat

theorem held' {n cf : Nat} {af : Option Addr} {o : Obj} (I : Inv B w wr vi vf (.slice af n cf) ps hs fs ks u) (hn : n = ks.length) {x : Int} {g cap : Nat} {w1 : World}
    (hown : w1.ownsRow (B + 1) 3 1 (.slice (some ⟨g, 0, none⟩) (n + 1) cap) (n + 1) (ks.map (Value.int .i64) ++ [.int .i64 x])) (hg : (wr.alloc o).grownBy w1 (Value.slice af n cf).ownBlock)
    (hat : (Value.slice af n cf).ownBlock = some g ∨ g = (wr.alloc o).heap.size) : Inv B w w1 vi vf (.slice (some ⟨g, 0, none⟩) (n + 1) cap) ps hs fs (ks ++ [x]) u := by
  subst hn
  exact (I.grow (World.grownBy_alloc _ _ _)).held hown hg hat

theorem lenH {q n ch : Nat} {ah : Option Addr} (I : Inv B w wr vi vf (.slice ah n ch) (ps ++ [q]) (hs ++ [0]) fs hs u) (hn : n = ps.length) : n = hs.length := by
  have := I.pl
  simp at this
  omega

theorem rowH {q n ch : Nat} {ah : Option Addr} (I : Inv B w wr vi vf (.slice ah n ch) (ps ++ [q]) (hs ++ [0]) fs hs u) (hn : n = ps.length) : wr.ownsRow (B + 1) 3 1 (.slice ah n ch) n (hs.map (Value.int .i64)) := by
  have := I.rh
  rwa [← lenH I hn] at this

/-- What the round reads and writes of the new number. -/
theorem facts3 {gf cf gh ch n q : Nat} (I : Inv B w wr vi (.slice (some ⟨gf, 0, none⟩) (n + 1) cf) (.slice (some ⟨gh, 0, none⟩) (n + 1) ch) (ps ++ [q]) (hs ++ [0]) (ps ++ [q]) (hs ++ [0]) u) (hn : n = ps.length) :
    wr.cell? ⟨q, 0, none⟩ = some (.int .i64 0) ∧ wr.frozen? ⟨q, 0, none⟩ = false ∧ wr.cell? ⟨gh, n, none⟩ = some (.int .i64 0) ∧ wr.frozen? ⟨gh, n, none⟩ = false ∧ gh ≠ q := by
  subst hn
  have hl := I.pl
  have hl' : hs.length = ps.length := by simpa using hl
  have e1 : (ps ++ [q]).getD ps.length 0 = q := by simp [List.getD]
  have e2 : (hs ++ [0]).getD ps.length 0 = 0 := by rw [← hl']; simp [List.getD]
  obtain ⟨a, b, c, d, e, f⟩ := facts I (by simp) (Nat.lt_succ_self _)
  rw [e1] at b c f
  rw [e2] at b d
  exact ⟨b, c, d, e, f⟩

/-- The two stores of the round, at a new number. -/
theorem stored3 {gh ch n q : Nat} (I : Inv B w wr vi vf (.slice (some ⟨gh, 0, none⟩) (n + 1) ch) (ps ++ [q]) (hs ++ [0]) fs (hs ++ [0]) u) (hn : n = ps.length) (x : Int) :
    Inv B w ((wr.setCell ⟨q, 0, none⟩ (.int .i64 x)).setCell ⟨gh, n, none⟩ (.int .i64 x)) vi vf (.slice (some ⟨gh, 0, none⟩) (n + 1) ch) (ps ++ [q]) ((hs ++ [0]).set n x) fs ((hs ++ [0]).set n x) u := by
  subst hn
  have e1 : (ps ++ [q]).getD ps.length 0 = q := by simp [List.getD]
  have := stored I (by simp) (Nat.lt_succ_self ps.length) x
  rwa [e1] at this

theorem facts4 {gi ci gf cf j n : Nat} (I : Inv B w wr (.slice (some ⟨gi, 0, none⟩) n ci) (.slice (some ⟨gf, 0, none⟩) n cf) vh ps hs ps ks u) (hn : n = ps.length) (hj : j < n) :
    wr.cell? ⟨B, 0, none⟩ = some (.slice (some ⟨gi, 0, none⟩) n ci) ∧ wr.cell? ⟨gi, j, none⟩ = some (.pointer (some ⟨ps.getD j 0, 0, none⟩)) ∧ wr.cell? ⟨gf, j, none⟩ = some (.pointer (some ⟨ps.getD j 0, 0, none⟩)) := by
  subst hn
  exact ⟨I.c0, by rw [I.ri.cellAt j (by omega)]; exact ptrs_at ps j hj, by rw [I.rf.cellAt j (by omega)]; exact ptrs_at ps j hj⟩

end

set_option maxRecDepth 100000 in
set_option maxHeartbeats 1000000 in
theorem walk_row (ao : Option Addr) (len cap : Nat) (zs : List Int) (w : World) (hlen : len ≤ 1024)
    (hao : 0 < len → ∃ b off, ao = some ⟨b, off, none⟩ ∧ b < w.heap.size ∧ ∀ j, j < len → w.cell? ⟨b, off + j, none⟩ = some (.int .u8 (zs.getD j 0)))
    (hzb : ∀ j, 0 ≤ zs.getD j 0 ∧ zs.getD j 0 ≤ 255) :
    Calls Yba.prog 3 #[.slice ao len cap] w fun e w' => e = .returned (.bool true) ∧ Below w.heap.size w w' := by
  have hnq := neq_same
  have HA : Hid (0 < len → ∃ b off, ao = some ⟨b, off, none⟩ ∧ b < w.heap.size ∧ ∀ j, j < len → w.cell? ⟨b, off + j, none⟩ = some (.int .u8 (zs.getD j 0))) := hao
  clear hao
  obtain ⟨i28, hi28, hp0, hp1, hp2⟩ := info_parts Yba.info28
  obtain ⟨i3, hi3, hq0, hq1, hq2⟩ := info_parts Yba.info3
  have hstart := inv_start w
  go_enter Yba.func3, Yba.ntmps3
  go_wp2
  go_loopw [4, 5, 6, 20] (fun vf vh us i wr => ∃ (k u : Nat) (vi : Value) (ps : List Nat) (hs : List Int), k ≤ len ∧ i = .int .i64 k ∧ us = .int .i64 u ∧ u ≤ ps.length ∧ ps.length ≤ k ∧ Inv w.heap.size w wr vi vf vh ps hs ps hs u)
    (fun _ _ _ i _ => len - (intOf i).toNat)
  case atStart => exact ⟨0, 0, _, [], [], Nat.zero_le _, rfl, rfl, Nat.le_refl _, Nat.le_refl _, hstart⟩
  case round =>
    obtain ⟨k, u, vi, ps, hs, hk, rfl, rfl, hu, hpk, I⟩ := hrel
    clear hstart
    by_cases hlt : k < len
    · obtain ⟨b, off, rfl, hb, hc⟩ := HA.out (by omega)
      obtain ⟨z, hz⟩ : ∃ z, z = zs.getD k 0 := ⟨_, rfl⟩
      have hzk := hzb k
      rw [← hz] at hzk
      have hcx : wr.cell? ⟨b, off + k, none⟩ = some (.int .u8 z) := by rw [hz]; exact (I.bel.cell (by exact hb)).trans (hc k hlt)
      have HI : Hid (Inv w.heap.size w wr vi u4 u5 ps hs ps hs u) := I
      clear hz hzb hc I
      by_cases hodd : z % 2 = 1
      · have hodd' : (z % 2 == 1) = true := by simpa using hodd
        clear hodd
        go_wp2_with (go_at_call 5; refine (restock_any HI.out).mono ?_; rintro e w2 ⟨rfl, I2⟩; have HJ : Hid (Inv w.heap.size w w2 vi u4 u5 ps hs ps hs 0) := I2; clear I2)
        go_roundw
        case rel => exact ⟨k + 1, 0, vi, ps, hs, by omega, by go_num, rfl, Nat.zero_le _, by omega, HJ.out⟩
        case measure => simp [intOf]; omega
      · have hodd' : (z % 2 == 1) = false := by simpa using hodd
        clear hodd
        by_cases hold : u < ps.length
        · obtain ⟨gf, cf, hvf, _⟩ := HI.out.rf.form (by omega)
          obtain ⟨gh, ch, hvh, _⟩ := HI.out.rh.form (by rw [HI.out.pl]; omega)
          rw [HI.out.pl] at hvh
          subst hvf hvh
          obtain ⟨n, hn⟩ : ∃ n, n = ps.length := ⟨_, rfl⟩
          obtain ⟨pp, hpp⟩ : ∃ pp, pp = ps.getD u 0 := ⟨_, rfl⟩
          obtain ⟨x, hx⟩ : ∃ x, x = hs.getD u 0 := ⟨_, rfl⟩
          have HN : Hid (n = ps.length ∧ pp = ps.getD u 0 ∧ x = hs.getD u 0) := ⟨hn, hpp, hx⟩
          have hT : Calls Yba.prog 6 #[.pointer (some ⟨w.heap.size, 0, none⟩)] wr fun e w' => e = .returned (.pointer (some ⟨pp, 0, none⟩)) ∧ Hid (Inv w.heap.size w w' vi (.slice (some ⟨gf, 0, none⟩) n cf) (.slice (some ⟨gh, 0, none⟩) n ch) ps hs ps hs (u + 1)) ∧
              w'.cell? ⟨gf, u, none⟩ = some (.pointer (some ⟨pp, 0, none⟩)) ∧ w'.cell? ⟨pp, 0, none⟩ = some (.int .i64 x) ∧ w'.frozen? ⟨pp, 0, none⟩ = false ∧
              w'.cell? ⟨gh, u, none⟩ = some (.int .i64 x) ∧ w'.frozen? ⟨gh, u, none⟩ = false ∧ gh ≠ pp := by
            subst hn hpp hx
            refine (take_old HI.out hold (by omega)).mono ?_
            rintro e w' ⟨rfl, I2⟩
            exact ⟨rfl, I2, facts I2 rfl hold⟩
          have hsl : ∀ c, Value.slice (some ⟨gf, 0, none⟩) ps.length c = .slice (some ⟨gf, 0, none⟩) n c := fun c => by rw [hn]
          have hsh : ∀ c, Value.slice (some ⟨gh, 0, none⟩) ps.length c = .slice (some ⟨gh, 0, none⟩) n c := fun c => by rw [hn]
          rw [hsl, hsh]
          rw [← hn] at hold hpk
          clear hn hpp hx hsl hsh hu
          have hui : (u : Int) < (n : Int) := by omega
          go_wp2_with (go_at_call 6; refine hT.mono ?_; clear hT; rintro e w2 ⟨rfl, HJ, cf1, cp1, fp1, ch1, fh1, hne⟩)
          go_quiet (fail)
          go_wp2
          go_roundw
          case rel =>
            obtain ⟨rfl, rfl, rfl⟩ := HN.out
            exact ⟨k + 1, u + 1, vi, ps, hs.set u ((k : Int) + 1), by omega, by go_num, by go_num, by omega, by omega, stored (HJ.out.grow (grownBy_draws _ _)) rfl hold _⟩
          case measure => simp [intOf]; omega
        · obtain rfl : u = ps.length := by omega
          clear hold hu
          obtain ⟨af, cf, hvf, haf⟩ := row_form HI.out.rf
          obtain ⟨ah, ch, hvh, hah⟩ := row_form HI.out.rh
          rw [HI.out.pl] at hvh
          subst hvf hvh
          obtain ⟨n, hn⟩ : ∃ n, n = ps.length := ⟨_, rfl⟩
          have hT : Calls Yba.prog 6 #[.pointer (some ⟨w.heap.size, 0, none⟩)] wr fun e w' => ∃ q vi', e = .returned (.pointer (some ⟨q, 0, none⟩)) ∧
              Hid (Inv w.heap.size w w' vi' (.slice af n cf) (.slice ah n ch) (ps ++ [q]) (hs ++ [0]) ps hs (n + 1)) ∧ w'.cell? ⟨q, 0, none⟩ = some (.int .i64 0) := by
            subst hn
            refine (take_new HI.out (by omega)).mono ?_
            rintro e w' ⟨q, vi', rfl, I2⟩
            refine ⟨q, vi', rfl, I2, ?_⟩
            have h := (I2.cellP (j := ps.length) (by simp)).1
            have hl := HI.out.pl
            have e1 : (ps ++ [q]).getD ps.length 0 = q := by simp [List.getD]
            have e2 : (hs ++ [0]).getD ps.length 0 = 0 := by rw [← hl]; simp [List.getD]
            rwa [e1, e2] at h
          have hsl : ∀ a c, Value.slice a ps.length c = .slice a n c := fun a c => by rw [hn]
          have HN : Hid (n = ps.length) := hn
          rw [hsl, hsl]
          rw [← hn] at hpk ⊢
          clear hsl hn
          go_wp2_with (go_at_call 6; refine hT.mono ?_; clear hT; rintro e w2 ⟨q, vi', rfl, HJ, cq⟩)
          go_loop [56] (fun i => ∃ j : Nat, j ≤ n ∧ i = .int .i64 j) (fun i => n - (intOf i).toNat)
          case atStart => exact ⟨0, Nat.zero_le _, rfl⟩
          case round =>
            obtain ⟨j, hj, rfl⟩ := hrel
            by_cases hjn : j < n
            · obtain ⟨gf, rfl⟩ := haf (by rw [← HN.out]; omega)
              obtain ⟨hcj, hej⟩ := facts2 HJ.out HN.out hjn
              obtain ⟨pj, hpj⟩ : ∃ pj, pj = ps.getD j 0 := ⟨_, rfl⟩
              rw [← hpj] at hcj hej
              clear hpj haf hah
              go_wp2
              go_round
              case rel => exact ⟨j + 1, by omega, by go_num⟩
              case measure => simp [intOf]; omega
            · clear haf hah
              have hrf : w2.ownsRow (w.heap.size + 1) 28 1 (.slice af n cf) n (ptrs ps) := by have := HJ.out.rf; rw [← HN.out] at this; exact this
              have hB := HJ.out.lt
              go_wp2_with (first
                | (at_builtin; refine wpList_append_lies _ rfl (.tmp 68) (.tmp 70) 24 rfl (w.heap.size + 1) 28 i28 _ 1 8 Yba.underlying24 hi28 hp0 hp1 hp2 rfl (by decide) (.slice af n cf) n (ptrs ps) rfl (hrf.alloc _) ⟨w2.heap.size, 0, none⟩ 1 1 [.pointer (some ⟨q, 0, none⟩)] rfl rfl (cell_one_new _ _ _) (by simp [Value.oneCell']) (by decide) (by unfold maxLen; omega) (by omega) (by simp; omega) _ rfl ?_; intro g1 c1 w3 hown3 hgrow3 hat3 hlt3; have HK : Hid (Inv w.heap.size w w3 vi' (.slice (some ⟨g1, 0, none⟩) (n + 1) c1) (.slice ah n ch) (ps ++ [q]) (hs ++ [0]) (ps ++ [q]) hs (n + 1)) := firsts' HJ.out HN.out hown3 hgrow3 hat3; have hrh : w3.ownsRow (w.heap.size + 1) 3 1 (.slice ah n ch) n (hs.map (Value.int .i64)) := rowH HK.out HN.out; have hB3 := HK.out.lt; clear hown3 hgrow3 hat3 hlt3 HJ hrf hB cq)
                | (at_builtin; refine wpList_append_lies _ rfl (.tmp 72) (.tmp 73) 27 rfl (w.heap.size + 1) 3 i3 _ 1 8 Yba.underlying27 hi3 hq0 hq1 hq2 rfl (by decide) (.slice ah n ch) n (hs.map (Value.int .i64)) rfl (hrh.alloc _) ⟨w3.heap.size, 0, none⟩ 1 1 [.int .i64 0] rfl rfl (cell_one_new _ _ _) (by simp [Value.oneCell']) (by decide) (by unfold maxLen; omega) (by omega) (by simp; omega) _ rfl ?_; intro g2 c2 w4 hown4 hgrow4 hat4 hlt4; have HL : Hid (Inv w.heap.size w w4 vi' (.slice (some ⟨g1, 0, none⟩) (n + 1) c1) (.slice (some ⟨g2, 0, none⟩) (n + 1) c2) (ps ++ [q]) (hs ++ [0]) (ps ++ [q]) (hs ++ [0]) (n + 1)) := held' HK.out (lenH HK.out HN.out) hown4 hgrow4 hat4; obtain ⟨x1, x2, x3, x4, x5⟩ := facts3 HL.out HN.out; clear hown4 hgrow4 hat4 hlt4 HK hrh hB3))
              go_roundw
              case rel => exact ⟨k + 1, n + 1, vi', ps ++ [q], (hs ++ [0]).set n ((k : Int) + 1), by omega, by go_num, by go_num, by simp [← HN.out], by simp [← HN.out]; omega, stored3 HL.out HN.out _⟩
              case measure => simp [intOf]; omega
    · obtain ⟨ai, ci, hvi, hai⟩ := row_form I.ri
      obtain ⟨af, cf, hvf, haf⟩ := row_form I.rf
      subst hvi hvf
      obtain ⟨n, hn⟩ : ∃ n, n = ps.length := ⟨_, rfl⟩
      have HI : Hid (Inv w.heap.size w wr (.slice ai ps.length ci) (.slice af ps.length cf) u5 ps hs ps hs u) := I
      have HN : Hid (n = ps.length) := hn
      have h0 := I.c0
      have h1 := I.c1
      have hsl : ∀ a c, Value.slice a ps.length c = .slice a n c := fun a c => by rw [hn]
      rw [hsl]
      rw [hsl] at h0
      rw [← hn] at hpk hu hai haf
      clear hsl hn I
      go_wp2
      clear h0 h1
      go_loopw [12] (fun i wx => ∃ j : Nat, j ≤ n ∧ i = .int .i64 j ∧ Inv w.heap.size w wx (.slice ai n ci) (.slice af n cf) u5 ps hs ps hs u)
        (fun i _ => n - (intOf i).toNat)
      case atStart => exact ⟨0, Nat.zero_le _, rfl, by rw [HN.out]; exact HI.out⟩
      case round =>
        obtain ⟨j, hj, rfl, I⟩ := hrel
        by_cases hjn : j < n
        · obtain ⟨gi, rfl⟩ := hai (by omega)
          obtain ⟨gf, rfl⟩ := haf (by omega)
          obtain ⟨y0, y1, y2⟩ := facts4 I HN.out hjn
          obtain ⟨pj, hpj⟩ : ∃ pj, pj = ps.getD j 0 := ⟨_, rfl⟩
          rw [← hpj] at y1 y2
          have HK : Hid (Inv w.heap.size w wr (.slice (some ⟨gi, 0, none⟩) n ci) (.slice (some ⟨gf, 0, none⟩) n cf) u5 ps hs ps hs u) := I
          clear hpj I hai haf HI
          have hji : (j : Int) < (n : Int) := by omega
          go_wp2
          go_quiet (fail)
          go_wp2
          go_roundw
          case rel => exact ⟨j + 1, by omega, by go_num, HK.out.grow (grownBy_draws _ _)⟩
          case measure => simp [intOf]; omega
        · have hbel := I.bel
          clear I HI hai haf
          go_wp2
          go_ret
          exact ⟨rfl, hbel⟩

theorem walk_long (a : Option Addr) (len cap : Nat) (w : World) (h : 1024 < len) :
    Calls Yba.prog 3 #[.slice a len cap] w fun e w' => e = .returned (.bool true) ∧ Below w.heap.size w w' := by
  have h' : (1024 : Int) < (len : Int) := by omega
  go_enter Yba.func3, Yba.ntmps3
  go_wp2
  go_ret
  exact ⟨rfl, Below.refl _ _⟩

end Go.Proofs.Ybulkcote.lawS4528BScript
