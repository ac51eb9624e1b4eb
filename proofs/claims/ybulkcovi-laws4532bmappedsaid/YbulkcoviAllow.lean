/-
  'allowOverride' OVER THE ITERATOR OF YbulkcoviSeq: what it answers, how many rounds it has drawn, and that nothing else has turned. By (L2), 'wpIn_rangeFunc': the iterator writes a variable of the caller's between two rounds, so the laws over 'SeqStops..' do not serve; here the iterator's word is asked for invariants that abide a store into that one variable.
-/
import Derived.Test.YbulkcoviSeq
namespace Go.Proofs.Ybulkcovi.Seq
open Go.RowKit Go.Shelf
set_option linter.unusedVariables false

attribute [local go_sem] Oper.semAt_some

/-- How the body of a round may be left: it goes on, or it returns. -/
def post (n₀ : Nat) (I Ix : List Int → World → Prop) (xs : List Int) (W : World) : Exit → Act → World → Prop
  | .normal, _, W' => KeepsOthers W W' ∧ Below n₀ W W' ∧ I xs W'
  | .ret, _, W' => KeepsOthers W W' ∧ Below n₀ W W' ∧ Ix xs W'
  | _, _, _ => False

theorem put_below {n₀ : Nat} (W : World) (l : Nat) (o : Obj) (h : n₀ ≤ l) (hs : n₀ ≤ W.heap.size) : Below n₀ W (W.putObj l o) :=
  (Below.refl n₀ W).grown (grownBy_putObj' W l o) hs (fun k e => by cases e; exact h)

/-- The loop's record as the statement lays it, in one of its states. -/
def recOf (fn : FuncId) (a : Act) (ps : Array Tmp) (assign body : Code) (D : Nat) (st : LoopState) (pe : Option Code) : Loop :=
  { state := st, pending := pe, fn := fn, tmps := a.tmps, params := ps, assign := assign, body := body, defers := D }

section
variable {F : Fence} {n : Nat} {P : Program}

/-- ONE ROUND: the record is ready; it is busy while the body runs; the body's word decides. -/
theorem one_round {fn : FuncId} {a : Act} {p : Tmp} {assign body : Code} {D l n₀ : Nat} {I Ix : List Int → World → Prop} {a₁ : Int → Act} {B : Nat} (hfn : F.fn fn) (hI : OwnFrom B I) (hIx : OwnFrom B Ix) (hl : B ≤ l) (hD : B ≤ D) (hDl : D ≠ l) (hn₀ : n₀ ≤ B)
    (hassign : ∀ (l : Nat) (x : Int) (W : World) (K : Act → World → Prop), K (a₁ x) W →
      assign.wpIn (F.inRound l) (n - 1) P (Exit.then K (fun _ _ _ => False)) { tmps := (#[p].zip #[Value.int .i64 x]).foldl (fun t (p, v) => t.setIfInBounds p v) a.tmps, defers := [] } W)
    (hbody : ∀ (l : Nat) (pre : List Int) (x : Int) (W : World), I pre W → body.wpIn (F.inRound l) (n - 1) P (post n₀ I Ix (pre ++ [x]) W) (a₁ x) W)
    (pre : List Int) (x : Int) (W : World) (hi : I pre W) (hr : W.heap[l]? = some (.loop (recOf fn a #[p] assign body D .ready none))) (hd : W.heap[D]? = some (.deferred (some []))) :
    YieldAt F (n - 1) P l #[.int .i64 x] W fun e W' =>
      (e = .returned (.bool true) ∧ (I (pre ++ [x]) W' ∧ W'.heap[l]? = some (.loop (recOf fn a #[p] assign body D .ready none)) ∧ W'.heap[D]? = some (.deferred (some []))) ∧ Below n₀ W W') ∨
      (e = .returned (.bool false) ∧ (Ix (pre ++ [x]) W' ∧ W'.heap[l]? = some (.loop (recOf fn a #[p] assign body D .done (some .ret))) ∧ W'.heap[D]? = some (.deferred (some []))) ∧ Below n₀ W W') := by
  have hlt : l < W.heap.size := (Array.getElem?_eq_some_iff.1 hr).1
  refine ⟨fn, _, assign, body, run_yield (P := P) (args := #[.int .i64 x]) hr rfl, roundIn_of_wpIn hfn ?_⟩
  refine hassign l x W _ ?_
  refine ⟨_, run_beginRound hr rfl, ?_⟩
  have hl2 := World.putObj_heap_same (w := W) (o := .loop { recOf fn a #[p] assign body D .ready none with state := .busy }) hlt
  have hd2 : (W.putObj l (.loop { recOf fn a #[p] assign body D .ready none with state := .busy })).heap[D]? = some (.deferred (some [])) := (World.putObj_heap_other hDl).trans hd
  have hb2 : Below n₀ W (W.putObj l (.loop { recOf fn a #[p] assign body D .ready none with state := .busy })) := put_below W l _ (by omega) (by omega)
  refine wpIn_mono (hbody l pre x _ (hI.putObj _ hi hl hr rfl)) ?_
  rintro e a3 W3 hp
  cases e with
  | normal =>
    obtain ⟨k3, b3, i3⟩ := hp
    have l3 := k3.same _ _ hl2 rfl
    have d3 := k3.same _ _ hd2 rfl
    refine ⟨_, _, run_endRound (P := P) none l3, .inl ⟨rfl, ⟨hI.putObj _ i3 hl l3 rfl, World.putObj_heap_same (Array.getElem?_eq_some_iff.1 l3).1, (World.putObj_heap_other hDl).trans d3⟩, ?_⟩⟩
    exact (hb2.trans b3).trans (put_below W3 l _ (by omega) (by have := (Array.getElem?_eq_some_iff.1 l3).1; omega))
  | ret =>
    obtain ⟨k3, b3, i3⟩ := hp
    have l3 := k3.same _ _ hl2 rfl
    have d3 := k3.same _ _ hd2 rfl
    refine ⟨_, _, run_endRound (P := P) (some .ret) l3, .inr ⟨rfl, ⟨hIx.putObj _ i3 hl l3 rfl, World.putObj_heap_same (Array.getElem?_eq_some_iff.1 l3).1, (World.putObj_heap_other hDl).trans d3⟩, ?_⟩⟩
    exact (hb2.trans b3).trans (put_below W3 l _ (by omega) (by have := (Array.getElem?_eq_some_iff.1 l3).1; omega))
  | exit id => exact hp.elim
  | goto t => exact hp.elim
  | panic ch => exact hp.elim
  | outgrown => exact hp.elim

/-- THE STATEMENT 'for x := range g { .. }' over an iterator that counts in block c. -/
theorem range_counted {g : Operand} {p : Tmp} {assign body : Code} {Q : Exit → Act → World → Prop} {a : Act} {w : World}
    (hro : F.round = none) (h1 : 1 ≤ n) {gf : Nat} {lb : Array Value} (hg : a.eval g = .func (.func gf) #[] lb) (hFg : F.fn gf) (eg : ∀ args w, (callFunc gf args).run P w = .ok (.enter gf args) w)
    {n₀ c : Nat} (hn₀ : n₀ ≤ w.heap.size) (hc : c < w.heap.size) {I Ix : List Int → World → Prop} {a₁ : Int → Act} (hI : OwnFrom w.heap.size I) (hIx : OwnFrom w.heap.size Ix) (hIc : ∀ s A v, I s A → I s (A.setCell ⟨c, 0, none⟩ v)) (h0 : I [] w)
    (hassign : ∀ (l : Nat) (x : Int) (W : World) (K : Act → World → Prop), K (a₁ x) W →
      assign.wpIn (F.inRound l) (n - 1 - 1) P (Exit.then K (fun _ _ _ => False)) { tmps := (#[p].zip #[Value.int .i64 x]).foldl (fun t (p, v) => t.setIfInBounds p v) a.tmps, defers := [] } W)
    (hbody : ∀ (l : Nat) (pre : List Int) (x : Int) (W : World), I pre W → body.wpIn (F.inRound l) (n - 1 - 1) P (post n₀ I Ix (pre ++ [x]) W) (a₁ x) W)
    {T T' : List Int → World → Prop} (hT : OwnFrom w.heap.size T) (hT' : OwnFrom w.heap.size T')
    (hseq : ∀ (l : Nat) (J Jx : List Int → World → Prop) (W : World), Below w.heap.size w W → (∀ s A v, J s A → J s (A.setCell ⟨c, 0, none⟩ v)) → (∀ s A, J s A → J s A.drew) →
      (∀ pre x W1, J pre W1 → YieldAt F (n - 1 - 1) P l #[.int .i64 x] W1 fun e W' => (e = .returned (.bool true) ∧ J (pre ++ [x]) W' ∧ Below n₀ W1 W') ∨ (e = .returned (.bool false) ∧ Jx (pre ++ [x]) W' ∧ Below n₀ W1 W')) →
      J [] W → CallsIn F (n - 1) P gf (#[.func (.yield l) #[] #[]] ++ lb) W fun e W' => (∃ v, e = .returned v) ∧ ((∃ xs, J xs W' ∧ T xs W') ∨ (∃ xs, Jx xs W' ∧ T' xs W')))
    (hdone : ∀ (D : Nat) (xs : List Int) (W : World), w.heap.size ≤ D → T xs W → I xs W → W.heap[D]? = some (.deferred (some [])) → Q .normal { a with defers := { target := .collected D, args := #[] } :: a.defers } W)
    (hstop : ∀ (D : Nat) (xs : List Int) (W : World), w.heap.size ≤ D → T' xs W → Ix xs W → W.heap[D]? = some (.deferred (some [])) → Code.ret.wpIn F n P Q { a with defers := { target := .collected D, args := #[] } :: a.defers } W) :
    (Code.rangeFunc g #[p] assign body).wpIn F n P Q a w := by
  refine wpIn_rangeFunc ?_
  intro fn hfn
  rw [hro]
  obtain ⟨W1, hW1⟩ : ∃ W1, (w.alloc (.deferred (some []))).alloc (.loop (recOf fn a #[p] assign body w.heap.size .ready none)) = W1 := ⟨_, rfl⟩
  have hL1 : W1.heap[w.heap.size + 1]? = some (.loop (recOf fn a #[p] assign body w.heap.size .ready none)) := by
    rw [← hW1]; have := World.alloc_heap_new (w.alloc (.deferred (some []))) (.loop (recOf fn a #[p] assign body w.heap.size .ready none)); rwa [World.size_alloc] at this
  have hK1 : W1.heap[w.heap.size]? = some (.deferred (some [])) := by
    rw [← hW1]; exact (Below.heap_alloc _ _ _ (by simp)).trans (World.alloc_heap_new w _)
  have hI1 : I [] W1 := by rw [← hW1]; exact hI.alloc _ (hI.alloc _ h0)
  have hb1 : Below w.heap.size w W1 := by
    rw [← hW1]; exact ((Below.refl _ w).alloc (Nat.le_refl _) _).alloc (by simp) _
  refine ⟨w.heap.size + 1, [{ target := .collected w.heap.size, args := #[] }], W1, { target := .fn (.func gf) lb, args := #[.func (.yield (w.heap.size + 1)) #[] #[]] }, W1, gf,
    #[.func (.yield (w.heap.size + 1)) #[] #[]] ++ lb, W1, ?_, ?_, ?_, ?_, fun _ => h1, ?_⟩
  · rw [← hW1]; exact run_enterLoop_outer _ _ _ _ _
  · simp only [resolve, hg]
    simp [go_sem]
  · intro f' hf'; simp [Target.leads] at hf'; subst hf'; exact hFg
  · simp [invoke, go_sem, eg]
  · refine (hseq (w.heap.size + 1)
      (fun pre W => I pre W ∧ W.heap[w.heap.size + 1]? = some (.loop (recOf fn a #[p] assign body w.heap.size .ready none)) ∧ W.heap[w.heap.size]? = some (.deferred (some [])))
      (fun pre W => Ix pre W ∧ W.heap[w.heap.size + 1]? = some (.loop (recOf fn a #[p] assign body w.heap.size .done (some .ret))) ∧ W.heap[w.heap.size]? = some (.deferred (some [])))
      W1 hb1 ?_ ?_ ?_ ⟨hI1, hL1, hK1⟩).mono ?_
    · rintro s A v ⟨hi, hl, hk⟩
      exact ⟨hIc s A v hi, (Below.heap_setCell A _ _ _ (by simp only; omega)).trans hl, (Below.heap_setCell A _ _ _ (by simp only; omega)).trans hk⟩
    · rintro s A ⟨hi, hl, hk⟩
      exact ⟨hI s A A.drew none hi ⟨rfl, rfl, rfl, Nat.le_refl _, fun _ _ _ => rfl⟩ (fun r e => by cases e), hl, hk⟩
    · rintro pre x W ⟨hi, hl, hk⟩
      exact one_round hfn hI hIx (by omega) (Nat.le_refl _) (by omega) hn₀ hassign hbody pre x W hi hl hk
    · rintro e W2 ⟨⟨v, rfl⟩, (⟨xs, ⟨hi, hl, hk⟩, ht⟩ | ⟨xs, ⟨hi, hl, hk⟩, ht⟩)⟩
      · exact ⟨none, _, run_endLoop (P := P) hl (by simp [recOf]), hdone _ xs _ (Nat.le_refl _) (hT.putObj _ ht (by omega) hl rfl) (hI.putObj _ hi (by omega) hl rfl) ((World.putObj_heap_other (by omega)).trans hk)⟩
      · exact ⟨some .ret, _, run_endLoop (P := P) hl (by simp [recOf]), hstop _ xs _ (Nat.le_refl _) (hT'.putObj _ ht (by omega) hl rfl) (hIx.putObj _ hi (by omega) hl rfl) ((World.putObj_heap_other (by omega)).trans hk)⟩

end

section
variable {W0 : World} {m bx bn c : Nat} {ao : Option Addr} {len cap : Nat} {zs : List Int}

/-- What the iterator reads abides the turn of a new block that is no cells. -/
theorem It.own {B0 : Nat} {A B : World} {row : Option Nat} {k : Nat} (t : It W0 m bx bn c ao len cap zs A k) (hg : A.grownBy B row) (hr : ∀ r, row = some r → B0 ≤ r ∧ ∃ o : Obj, A.heap[r]? = some o ∧ o.isCells = false) (hm : m ≤ B0) (hmc : m ≤ c) :
    It W0 m bx bn c ao len cap zs B k := by
  have hr' : ∀ r, row = some r → ∃ o : Obj, A.heap[r]? = some o ∧ o.isCells = false := fun r e => (hr r e).2
  have hmA : m ≤ A.heap.size := by have h : c < A.heap.size := World.block_lt_of_cell? A _ t.cc; omega
  exact ⟨cell_kept t.x hg hr', cell_kept t.n hg hr', cell_kept t.cc hg hr', (frozen_kept t.cc hg hr').trans t.cf, fun b off e j hj => cell_kept (t.ce b off e j hj) hg hr', t.bel.grown hg hmA (fun k e => Nat.le_trans hm (hr k e).1)⟩

set_option maxRecDepth 100000 in
set_option maxHeartbeats 2000000 in
theorem allow_in (F : Fence) (n : Nat) (h5 : F.fn 5) (h7 : F.fn 7) (hro : F.round = none) (hn : 3 ≤ n) (w : World) (L : Lie w.heap.size m bx bn c ao len) (hlen : len ≤ 1024) (hz : len ≤ zs.length)
    (T : It W0 m bx bn c ao len cap zs w 0) :
    CallsIn F n Yba.prog 5 #[.func (.func 7) #[] #[.pointer (some ⟨bx, 0, none⟩), .pointer (some ⟨bn, 0, none⟩)]] w fun e W' => ∃ (r : Bool) (k : Nat), e = .returned (.bool r) ∧
      ((r = false ∧ k = len ∧ ∀ y ∈ zs.take len, y ≠ 0) ∨ (r = true ∧ ∃ i, i < len ∧ k = i + 1 ∧ ∃ q, zs.take (i + 1) = q ++ [0] ∧ ∀ y ∈ q, y ≠ 0)) ∧ It W0 m bx bn c ao len cap zs W' k := by
  have h1 : 1 ≤ n := by omega
  have hcw := L.hc
  have hmw : m ≤ w.heap.size := by have := L.mc; omega
  refine callsIn_of_wp_marks Yba.func5 rfl h5 ?_ hro
  simp only [Yba.ntmps5, List.size_toArray, List.length_cons, List.length_nil, Nat.reduceAdd, Nat.reduceSub, Array.replicate_succ, Array.replicate_zero, List.push_toArray, List.append_toArray, List.nil_append, List.cons_append]
  gi_wp2
  have c0 : (w.alloc (.cells #[.bool false] 4)).cell? ⟨w.heap.size, 0, none⟩ = some (.bool false) ∧ (w.alloc (.cells #[.bool false] 4)).frozen? ⟨w.heap.size, 0, none⟩ = false := ⟨World.cell?_alloc_at _ _ _ _ rfl, World.frozen?_alloc_at _ _ _ _ rfl⟩
  refine range_counted hro h1 (gf := 7) (lb := #[.pointer (some ⟨bx, 0, none⟩), .pointer (some ⟨bn, 0, none⟩)]) rfl h7 (enters_of Yba.func7 (by kernel_rfl) rfl) (n₀ := w.heap.size) (c := c) (by simp) (by simp; omega)
    (I := fun pre W => (∀ y ∈ pre, y ≠ 0) ∧ W.cell? ⟨w.heap.size, 0, none⟩ = some (.bool false) ∧ W.frozen? ⟨w.heap.size, 0, none⟩ = false)
    (Ix := fun pre W => (∃ q, pre = q ++ [0] ∧ ∀ y ∈ q, y ≠ 0) ∧ W.cell? ⟨w.heap.size, 0, none⟩ = some (.bool true))
    (a₁ := fun x => { tmps := #[.func (.func 7) #[] #[.pointer (some ⟨bx, 0, none⟩), .pointer (some ⟨bn, 0, none⟩)], undef, .pointer (some ⟨w.heap.size, 0, none⟩), .int .i64 x, .func (.func 7) #[] #[.pointer (some ⟨bx, 0, none⟩), .pointer (some ⟨bn, 0, none⟩)], .int .i64 x, undef, undef], defers := [] })
    (Own.from (fun s A B row hs hg hr => ⟨hs.1, cell_kept hs.2.1 hg hr, (frozen_kept hs.2.1 hg hr).trans hs.2.2⟩) _)
    (Own.from (fun s A B row hs hg hr => ⟨hs.1, cell_kept hs.2 hg hr⟩) _)
    (fun s A v hs => ⟨hs.1, (World.cell?_setCell_other _ _ _ _ (by simp only [ne_eq, Addr.mk.injEq]; omega)).trans hs.2.1, (World.frozen?_setCell _ _ _ _).trans hs.2.2⟩)
    ⟨by simp, c0⟩ ?assign ?body
    (T := fun xs W => xs = zs.take len ∧ It W0 m bx bn c ao len cap zs W len) (T' := fun xs W => ∃ k, k < len ∧ xs = zs.take (k + 1) ∧ It W0 m bx bn c ao len cap zs W (k + 1))
    ?t1 ?t2 ?seq ?done ?stop
  case assign =>
    intro l x W K hK
    gi_wp2
    exact hK
  case body =>
    rintro l pre x W ⟨hp, hc, hf⟩
    gi_wp2
    · rename_i hx
      obtain rfl : x = 0 := eq_of_beq hx
      exact ⟨KeepsOthers.setCell _ _ _, (Below.refl w.heap.size W).setCell (p := ⟨w.heap.size, 0, none⟩) (Nat.le_refl _) _, ⟨pre, rfl, hp⟩, World.cell?_setCell_same' _ _ _ (by rw [hc]; rfl)⟩
    · rename_i hx
      exact ⟨KeepsOthers.refl _, Below.refl _ _, fun y hy => (List.mem_append.1 hy).elim (hp y) (fun e e' => by simp at e; subst e; subst e'; simp at hx), hc, hf⟩
  case t1 => exact fun s A B row hs hg hr => ⟨hs.1, hs.2.own hg hr (by simp; omega) L.mc⟩
  case t2 =>
    rintro s A B row ⟨k, hk, e, t⟩ hg hr
    exact ⟨k, hk, e, t.own hg hr (by simp; omega) L.mc⟩
  case seq =>
    intro l J Jx W hW hJc hJd hY hJ0
    have hW' : Below w.heap.size w W := ((Below.refl _ _).alloc (Nat.le_refl _) _).trans (hW.mono (by simp))
    refine (seq1_in (n₀ := w.heap.size) F (n - 1) h7 hro (by omega) l L hmw hlen hz J Jx hJc hJd (fun pre x W hj _ => hY pre x W hj) W hJ0 (T.below L hW' hmw)).mono ?_
    rintro e W' ⟨hv, (⟨hj, t⟩ | ⟨k, hk, hj, t⟩)⟩
    · exact ⟨hv, .inl ⟨_, hj, rfl, t⟩⟩
    · exact ⟨hv, .inr ⟨_, hj, k, hk, rfl, t⟩⟩
  case done =>
    rintro D xs W hD ⟨rfl, t⟩ ⟨hp, hc, hf⟩ hK
    gi_wp2
    have hK' := (KeepsOthers.setCell W ⟨w.heap.size, 0, none⟩ (.bool false)).same D _ hK rfl
    refine ⟨by simp, .inl ⟨_, _, rfl, run_takeDeferred hK', ?_⟩⟩
    have hc5 := cell_kept (World.cell?_setCell_same' W ⟨w.heap.size, 0, none⟩ (.bool false) (by rw [hc]; rfl)) (grownBy_putObj' _ D (.deferred none)) (fun r e => by cases e; exact ⟨_, hK', rfl⟩)
    refine ⟨.bool false, ?_, false, len, rfl, .inl ⟨rfl, rfl, hp⟩, ?_⟩
    · simp [results, Yba.f5, go_sem, hc5]
    · refine (t.below L ((Below.refl w.heap.size W).setCell (p := ⟨w.heap.size, 0, none⟩) (Nat.le_refl _) _) hmw).own (B0 := w.heap.size) (grownBy_putObj' _ D (.deferred none)) (fun r e => ?_) hmw L.mc
      cases e
      exact ⟨by simp at hD; omega, _, hK', rfl⟩
  case stop =>
    rintro D xs W hD ⟨k, hk, rfl, t⟩ ⟨⟨q, hq, hp⟩, hc⟩ hK
    gi_wp2
    refine ⟨by simp, .inl ⟨_, _, rfl, run_takeDeferred hK, ?_⟩⟩
    have hc5 := cell_kept hc (grownBy_putObj' _ D (.deferred none)) (fun r e => by cases e; exact ⟨_, hK, rfl⟩)
    refine ⟨.bool true, ?_, true, k + 1, rfl, .inr ⟨rfl, k, hk, rfl, q, hq, hp⟩, ?_⟩
    · simp [results, Yba.f5, go_sem, hc5]
    · refine t.own (B0 := w.heap.size) (grownBy_putObj' _ D (.deferred none)) (fun r e => ?_) hmw L.mc
      cases e
      exact ⟨by simp at hD; omega, _, hK, rfl⟩

/-- The same as a plain contract. -/
theorem allow_any (w : World) (L : Lie w.heap.size m bx bn c ao len) (hlen : len ≤ 1024) (hz : len ≤ zs.length) (T : It W0 m bx bn c ao len cap zs w 0) :
    Calls Yba.prog 5 #[.func (.func 7) #[] #[.pointer (some ⟨bx, 0, none⟩), .pointer (some ⟨bn, 0, none⟩)]] w fun e W' => ∃ (r : Bool) (k : Nat), e = .returned (.bool r) ∧
      ((r = false ∧ k = len ∧ ∀ y ∈ zs.take len, y ≠ 0) ∨ (r = true ∧ ∃ i, i < len ∧ k = i + 1 ∧ ∃ q, zs.take (i + 1) = q ++ [0] ∧ ∀ y ∈ q, y ≠ 0)) ∧ It W0 m bx bn c ao len cap zs W' k :=
  callsIn_wide.1 (allow_in Fence.wide 3 trivial trivial rfl (by omega) w L hlen hz T)

/-- 'zzs4532bseq(xs, n)': both parameters are boxed; the function value captures the boxes. -/
theorem seq_any (ao : Option Addr) (len cap c : Nat) (w : World) :
    Calls Yba.prog 6 #[.slice ao len cap, .pointer (some ⟨c, 0, none⟩)] w fun e w' => e = .returned (.func (.func 7) #[] #[.pointer (some ⟨w.heap.size, 0, none⟩), .pointer (some ⟨w.heap.size + 1, 0, none⟩)]) ∧
      w' = (w.alloc (.cells #[.slice ao len cap] 22)).alloc (.cells #[.pointer (some ⟨c, 0, none⟩)] 27) := by
  go_enter Yba.func6, Yba.ntmps6
  go_wp2
  go_ret
  exact ⟨rfl, rfl⟩

/-- The first nought is where it is. -/
theorem out_yes {r : Bool} {k kk : Nat} (hk : k < len) (hz : len ≤ zs.length) (h0 : zs[k]?.getD 0 = 0) (hne : ∀ y ∈ zs.take k, y ≠ 0)
    (H : (r = false ∧ kk = len ∧ ∀ y ∈ zs.take len, y ≠ 0) ∨ (r = true ∧ ∃ i, i < len ∧ kk = i + 1 ∧ ∃ q, zs.take (i + 1) = q ++ [0] ∧ ∀ y ∈ q, y ≠ 0)) : r = true ∧ kk = k + 1 := by
  have hkz : k < zs.length := by omega
  have hmem : ∀ i, k < i → (0 : Int) ∈ zs.take i := fun i hi => by
    rw [List.mem_take_iff_getElem]
    refine ⟨k, by omega, ?_⟩
    have : zs[k]?.getD 0 = zs[k] := by simp [hkz]
    rw [← this]; exact h0
  rcases H with ⟨_, _, h⟩ | ⟨hr, i, hi, hkk, q, hq, hqn⟩
  · exact absurd rfl (h 0 (hmem len hk))
  · refine ⟨hr, ?_⟩
    have e := take_snoc zs i (by omega)
    rw [hq] at e
    obtain ⟨e1, e2⟩ := List.append_inj' e rfl
    have e3 : zs[i]?.getD 0 = 0 := by simpa using e2.symm
    rcases Nat.lt_trichotomy i k with hlt | heq | hgt
    · exfalso
      have : (0 : Int) ∈ zs.take k := by
        rw [List.mem_take_iff_getElem]
        refine ⟨i, by omega, ?_⟩
        have : zs[i]?.getD 0 = zs[i] := by simp [show i < zs.length by omega]
        rw [← this]; exact e3
      exact hne 0 this rfl
    · omega
    · exact absurd rfl (hqn 0 (by rw [e1]; exact hmem i hgt))

theorem out_no {r : Bool} {kk : Nat} (hne : ∀ y ∈ zs.take len, y ≠ 0)
    (H : (r = false ∧ kk = len ∧ ∀ y ∈ zs.take len, y ≠ 0) ∨ (r = true ∧ ∃ i, i < len ∧ kk = i + 1 ∧ ∃ q, zs.take (i + 1) = q ++ [0] ∧ ∀ y ∈ q, y ≠ 0)) : r = false ∧ kk = len := by
  rcases H with ⟨h1, h2, _⟩ | ⟨hr, i, hi, hkk, q, hq, hqn⟩
  · exact ⟨h1, h2⟩
  · exfalso
    have h0 : (0 : Int) ∈ zs.take (i + 1) := by rw [hq]; simp
    refine hne 0 ?_ rfl
    rw [List.mem_take_iff_getElem] at h0 ⊢
    obtain ⟨j, hj, e⟩ := h0
    exact ⟨j, by omega, e⟩

end
end Go.Proofs.Ybulkcovi.Seq
