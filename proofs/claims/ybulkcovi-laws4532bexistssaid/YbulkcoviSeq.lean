/-
  THE ITERATOR that 'zzs4532bseq(xs, n)' makes: FOR EVERY LOOP BODY THAT KEEPS WHAT LAY BELOW n₀: it counts the rounds in the caller's variable (block c), hands each element over in order, and stops where a round says 'no more'.
-/
import Derived.RangeFuncFrom
import Derived.RangeFuncBox
import Derived.RangeFuncLeaves
import Derived.RangeFuncCalls
import Derived.Shelf.Abstract
import Derived.Shelf.RegionOpen
import Derived.WalkKit
import Derived.OwnWalkIn
import Derived.TacticsInMore
import Derived.LoopNIn
import Derived.LoopIn
import Derived.BigRegionIn
import Derived.Test.YbulkcoviRows
namespace Go.Proofs.Ybulkcovi.Seq
open Go.RowKit Go.Shelf
set_option linter.unusedVariables false

attribute [local go_sem] Oper.semAt_some

theorem take_snoc (zs : List Int) (k : Nat) (h : k < zs.length) : zs.take (k + 1) = zs.take k ++ [zs[k]?.getD 0] := by
  rw [List.take_succ_eq_append_getElem h]
  simp [h]

theorem wrap_small (x : Int) (h : 0 ≤ x) (h' : x ≤ 1000000) : IntKind.i64.wrap x = x := by
  rw [IntKind.wrap_i64]
  omega

/-- What the iterator reads and writes: the box of xs, the box of n, the counter, the elements; and that nothing below m has turned since W0. -/
structure It (W0 : World) (m bx bn c : Nat) (ao : Option Addr) (len cap : Nat) (zs : List Int) (W : World) (k : Nat) : Prop where
  x : W.cell? ⟨bx, 0, none⟩ = some (.slice ao len cap)
  n : W.cell? ⟨bn, 0, none⟩ = some (.pointer (some ⟨c, 0, none⟩))
  cc : W.cell? ⟨c, 0, none⟩ = some (.int .i64 k)
  cf : W.frozen? ⟨c, 0, none⟩ = false
  ce : ∀ b off, ao = some ⟨b, off, none⟩ → ∀ j, j < len → W.cell? ⟨b, off + j, none⟩ = some (.int .i64 (zs[j]?.getD 0))
  bel : Below m W0 W

/-- What stays: where these lie. -/
structure Lie (n₀ m bx bn c : Nat) (ao : Option Addr) (len : Nat) : Prop where
  hx : bx < n₀
  hn : bn < n₀
  hc : c < n₀
  xc : bx ≠ c
  nc : bn ≠ c
  mc : m ≤ c
  ha : 0 < len → ∃ b off, ao = some ⟨b, off, none⟩ ∧ b < n₀ ∧ b ≠ c

section
variable {W0 : World} {n₀ m bx bn c : Nat} {ao : Option Addr} {len cap : Nat} {zs : List Int}

theorem It.below (L : Lie n₀ m bx bn c ao len) {A B : World} {k : Nat} (h : It W0 m bx bn c ao len cap zs A k) (hb : Below n₀ A B) (hm : m ≤ n₀) : It W0 m bx bn c ao len cap zs B k := by
  refine ⟨(hb.cell (p := ⟨bx, 0, none⟩) L.hx).trans h.x, (hb.cell (p := ⟨bn, 0, none⟩) L.hn).trans h.n, (hb.cell (p := ⟨c, 0, none⟩) L.hc).trans h.cc, (hb.frozen (p := ⟨c, 0, none⟩) L.hc).trans h.cf, ?_, h.bel.trans (hb.mono hm)⟩
  intro b off e j hj
  obtain ⟨b', off', e', hb', _⟩ := L.ha (by omega)
  rw [e] at e'
  cases e'
  exact (hb.cell (p := ⟨b, off + j, none⟩) hb').trans (h.ce b off e j hj)

theorem It.tick (L : Lie n₀ m bx bn c ao len) {A : World} {k : Nat} (h : It W0 m bx bn c ao len cap zs A k) : It W0 m bx bn c ao len cap zs (A.setCell ⟨c, 0, none⟩ (.int .i64 (k + 1 : Nat))) (k + 1) := by
  have := L.xc
  have := L.nc
  refine ⟨(World.cell?_setCell_other _ _ _ _ (by simp only [ne_eq, Addr.mk.injEq]; omega)).trans h.x, (World.cell?_setCell_other _ _ _ _ (by simp only [ne_eq, Addr.mk.injEq]; omega)).trans h.n, World.cell?_setCell_same _ _ _ h.cc, (World.frozen?_setCell _ _ _ _).trans h.cf, ?_, h.bel.setCell L.mc _⟩
  intro b off e j hj
  obtain ⟨b', off', e', _, hb'⟩ := L.ha (by omega)
  rw [e] at e'
  cases e'
  exact (World.cell?_setCell_other _ _ _ _ (by simp only [ne_eq, Addr.mk.injEq]; omega)).trans (h.ce b off e j hj)

theorem It.drew {A : World} {k : Nat} (h : It W0 m bx bn c ao len cap zs A k) (n : Nat) : It W0 m bx bn c ao len cap zs (A.drewN n) k :=
  ⟨h.x, h.n, h.cc, h.cf, h.ce, ⟨h.bel.os, h.bel.tape, h.bel.output, h.bel.size, h.bel.block⟩⟩

set_option maxRecDepth 100000 in
set_option maxHeartbeats 2000000 in
theorem seq1_in (F : Fence) (n : Nat) (h7 : F.fn 7) (hro : F.round = none) (hn : 1 ≤ n) (l : Nat) (L : Lie n₀ m bx bn c ao len) (hmn : m ≤ n₀) (hlen : len ≤ 1024) (hz : len ≤ zs.length) (J Jx : List Int → World → Prop)
    (hJc : ∀ s A v, J s A → J s (A.setCell ⟨c, 0, none⟩ v)) (hJd : ∀ s A, J s A → J s A.drew)
    (hY : ∀ pre x W, J pre W → pre.length < len → YieldAt F (n - 1) Yba.prog l #[.int .i64 x] W fun e W' =>
      (e = .returned (.bool true) ∧ J (pre ++ [x]) W' ∧ Below n₀ W W') ∨ (e = .returned (.bool false) ∧ Jx (pre ++ [x]) W' ∧ Below n₀ W W'))
    (W : World) (h0 : J [] W) (T : It W0 m bx bn c ao len cap zs W 0) :
    CallsIn F n Yba.prog 7 #[.func (.yield l) #[] #[], .pointer (some ⟨bx, 0, none⟩), .pointer (some ⟨bn, 0, none⟩)] W fun e W' => (∃ v, e = .returned v) ∧
      ((J (zs.take len) W' ∧ It W0 m bx bn c ao len cap zs W' len) ∨ (∃ k, k < len ∧ Jx (zs.take (k + 1)) W' ∧ It W0 m bx bn c ao len cap zs W' (k + 1))) := by
  refine callsIn_of_wp Yba.func7 rfl h7 ?_ hro
  simp only [Yba.ntmps7, List.size_toArray, List.length_cons, List.length_nil, Nat.reduceAdd, Nat.reduceSub, Array.replicate_succ, Array.replicate_zero, List.push_toArray, List.append_toArray, List.nil_append, List.cons_append]
  gi_wp2
  gi_loopw [4] (fun i wr => ∃ k : Nat, k ≤ len ∧ i = .int .i64 k ∧ J (zs.take k) wr ∧ It W0 m bx bn c ao len cap zs wr k)
    (fun i _ => len - (intOf i).toNat)
  case atStart => exact ⟨0, Nat.zero_le _, rfl, h0, T⟩
  case round =>
    obtain ⟨k, hk, rfl, hJs, t⟩ := hrel
    have t1 := t.x
    by_cases hlt : k < len
    · obtain ⟨b, off, rfl, hb, hbc⟩ := L.ha (by omega)
      have t2 := t.n
      have t3 := t.cc
      have t4 := t.cf
      have hkk : (k : Int) + 1 ≤ 1025 := by omega
      have hw : IntKind.i64.wrap ((k : Int) + 1) = (k : Int) + 1 := wrap_small _ (by omega) (by omega)
      gi_wp2
      gi_region
      all_goals
        clear hw
        have t5 : It W0 m bx bn c (some ⟨b, off, none⟩) len cap zs ((wr.setCell ⟨c, 0, none⟩ (.int .i64 ((k : Int) + 1))).drew) (k + 1) := (t.tick L).drew 1
        have j5 : J (zs.take k) ((wr.setCell ⟨c, 0, none⟩ (.int .i64 ((k : Int) + 1))).drew) := hJd _ _ (hJc _ _ _ hJs)
        clear t1 t2 t3 t4 t hJs
        generalize (wr.setCell ⟨c, 0, none⟩ (.int .i64 ((k : Int) + 1))).drew = W2 at t5 j5 ⊢
        have t6 := t5.x
        have t7 := t5.ce b off rfl k hlt
        obtain ⟨fn, tmps, assign, body, hy, hR⟩ := hY _ (zs[k]?.getD 0) W2 j5 (by rw [List.length_take]; omega)
        gi_wp2
        refine hR.mono ?_
        rintro e W3 (⟨rfl, hJ3, hk3⟩ | ⟨rfl, hJx3, hk3⟩)
        · have t8 := t5.below L hk3 hmn
          have HT : Hid (J (zs.take (k + 1)) W3 ∧ It W0 m bx bn c (some ⟨b, off, none⟩) len cap zs W3 (k + 1)) := ⟨by rw [take_snoc zs k (by omega)]; exact hJ3, t8⟩
          clear t5 t6 t7 t8 hJ3 hk3 hy hR j5
          gi_wp2
          go_roundw
          case rel => exact ⟨k + 1, by omega, by go_num, HT.out⟩
          case measure => simp [intOf]; omega
        · have t8 := t5.below L hk3 hmn
          have HT : Hid (Jx (zs.take (k + 1)) W3 ∧ It W0 m bx bn c (some ⟨b, off, none⟩) len cap zs W3 (k + 1)) := ⟨by rw [take_snoc zs k (by omega)]; exact hJx3, t8⟩
          clear t5 t6 t7 t8 hJx3 hk3 hy hR j5
          gi_wp2
          refine bodyPost_ret (results_none rfl _ _ _) rfl ?_
          exact ⟨⟨_, rfl⟩, .inr ⟨k, hlt, HT.out⟩⟩
    · obtain rfl : k = len := by omega
      gi_wp2
      go_end0
      exact ⟨⟨_, rfl⟩, .inl ⟨hJs, t⟩⟩

end
end Go.Proofs.Ybulkcovi.Seq
