/-
  WHAT THE LAW 'LawS4528BScript' KEEPS ROUND BY ROUND, said of the world: the stock's two cells, the three rows (items, firsts, held), the numbers that were handed out; and what each step does to it. No walk here.
-/
import Derived.Test.YbulkcoteRows
import Derived.WalkKit
import Derived.WalkSpells
import Derived.Deep.AppendLies
namespace Go.Proofs.Ybulkcote.lawS4528BScript
open Go.RowKit
set_option linter.unusedVariables false

def ptrs (l : List Nat) : List Value := l.map fun p => .pointer (some ⟨p, 0, none⟩)

theorem ptrs_length (l : List Nat) : (ptrs l).length = l.length := by simp [ptrs]
theorem ptrs_at (l : List Nat) (j : Nat) (h : j < l.length) : (ptrs l)[j]? = some (.pointer (some ⟨l.getD j 0, 0, none⟩)) := by
  simp [ptrs, List.getD, h]
theorem ints_at' (l : List Int) (j : Nat) (h : j < l.length) : (l.map (Value.int .i64))[j]? = some (.int .i64 (l.getD j 0)) := by
  simp [List.getD, h]

structure Inv (B : Nat) (w wr : World) (vi vf vh : Value) (ps : List Nat) (hs : List Int) (fs : List Nat) (ks : List Int) (u : Nat) : Prop where
  c0 : wr.cell? ⟨B, 0, none⟩ = some vi
  c1 : wr.cell? ⟨B, 1, none⟩ = some (.int .i64 u)
  f0 : wr.frozen? ⟨B, 0, none⟩ = false
  f1 : wr.frozen? ⟨B, 1, none⟩ = false
  ri : wr.ownsRow (B + 1) 28 1 vi ps.length (ptrs ps)
  rf : wr.ownsRow (B + 1) 28 1 vf fs.length (ptrs fs)
  rh : wr.ownsRow (B + 1) 3 1 vh ks.length (ks.map (Value.int .i64))
  di : ∀ g, vi.ownBlock = some g → vf.ownBlock ≠ some g ∧ vh.ownBlock ≠ some g ∧ g ∉ ps
  df : ∀ g, vf.ownBlock = some g → vh.ownBlock ≠ some g ∧ g ∉ ps
  dh : ∀ g, vh.ownBlock = some g → g ∉ ps
  pl : hs.length = ps.length
  pb : ∀ p ∈ ps, B < p ∧ p < wr.heap.size
  ph : ∀ j, j < ps.length → wr.heap[ps.getD j 0]? = some (.cells #[.int .i64 (hs.getD j 0)] 3 (0, 0))
  nd : ps.Nodup
  bel : Below B w wr

theorem getD_mem {l : List Nat} {j : Nat} (h : j < l.length) : l.getD j 0 ∈ l := by
  rw [List.getD_eq_getElem?_getD, List.getElem?_eq_getElem h]
  exact List.getElem_mem h

section
variable {B : Nat} {w wr : World} {vi vf vh : Value} {ps fs : List Nat} {hs ks : List Int} {u : Nat}

theorem Inv.lt (I : Inv B w wr vi vf vh ps hs fs ks u) : B < wr.heap.size := World.block_lt_of_cell? wr _ I.c0

/-- What a turn of one row, or of none, leaves. -/
theorem Inv.stock (I : Inv B w wr vi vf vh ps hs fs ks u) {w' : World} {row : Option Nat} (hg : wr.grownBy w' row) (hne : some B ≠ row) :
    w'.cell? ⟨B, 0, none⟩ = some vi ∧ w'.cell? ⟨B, 1, none⟩ = some (.int .i64 u) ∧ w'.frozen? ⟨B, 0, none⟩ = false ∧ w'.frozen? ⟨B, 1, none⟩ = false :=
  ⟨(hg.cell_far ⟨B, 0, none⟩ I.lt hne).trans I.c0, (hg.cell_far ⟨B, 1, none⟩ I.lt hne).trans I.c1, (hg.frozen_far ⟨B, 0, none⟩ I.lt hne).trans I.f0, (hg.frozen_far ⟨B, 1, none⟩ I.lt hne).trans I.f1⟩

theorem Inv.nums (I : Inv B w wr vi vf vh ps hs fs ks u) {w' : World} {row : Option Nat} (hg : wr.grownBy w' row) (hne : ∀ p ∈ ps, some p ≠ row) :
    (∀ p ∈ ps, B < p ∧ p < w'.heap.size) ∧ ∀ j, j < ps.length → w'.heap[ps.getD j 0]? = some (.cells #[.int .i64 (hs.getD j 0)] 3 (0, 0)) := by
  refine ⟨fun p hp => ⟨(I.pb p hp).1, Nat.lt_of_lt_of_le (I.pb p hp).2 hg.size⟩, fun j hj => ?_⟩
  rw [hg.block _ (I.pb _ (getD_mem hj)).2 (hne _ (getD_mem hj))]
  exact I.ph j hj

theorem Inv.under (I : Inv B w wr vi vf vh ps hs fs ks u) {w' : World} {row : Option Nat} (hg : wr.grownBy w' row) (hne : ∀ k, row = some k → B ≤ k) : Below B w w' :=
  I.bel.grown hg (Nat.le_of_lt I.lt) hne

theorem own_ne (r : wr.ownsRow (B + 1) 28 1 vi ps.length (ptrs ps)) : vi.ownBlock ≠ some B := fun e => by have := (r.lt B e).1; omega

/-- New blocks, draws. -/
theorem Inv.grow (I : Inv B w wr vi vf vh ps hs fs ks u) {w' : World} (hg : wr.grownBy w' none) : Inv B w w' vi vf vh ps hs fs ks u := by
  obtain ⟨a, b, c, d⟩ := I.stock hg (by simp)
  obtain ⟨e, f⟩ := I.nums hg (by simp)
  have hk : ∀ v : Value, v.ownBlock = none ∨ v.ownBlock ≠ none := fun v => by cases v.ownBlock <;> simp
  exact ⟨a, b, c, d, I.ri.kept hg (hk _), I.rf.kept hg (hk _), I.rh.kept hg (hk _), I.di, I.df, I.dh, I.pl, e, f, I.nd, I.under hg (by simp)⟩

theorem grownBy_set (w : World) (b o : Nat) (v : Value) : w.grownBy (w.setCell ⟨b, o, none⟩ v) (some b) :=
  ⟨rfl, rfl, rfl, by rw [World.size_setCell]; exact Nat.le_refl _, fun k _ hk => Below.heap_setCell _ _ _ k (fun e => hk (by rw [e]))⟩

theorem ne_blk {v : Value} {b : Nat} (h : v.ownBlock ≠ some b) : v.ownBlock = none ∨ v.ownBlock ≠ some b := .inr h

/-- A store into the stock. -/
theorem Inv.setStock (I : Inv B w wr vi vf vh ps hs fs ks u) (o : Nat) (v : Value) :
    let w' := wr.setCell ⟨B, o, none⟩ v
    w'.ownsRow (B + 1) 28 1 vi ps.length (ptrs ps) ∧ w'.ownsRow (B + 1) 28 1 vf fs.length (ptrs fs) ∧ w'.ownsRow (B + 1) 3 1 vh ks.length (ks.map (Value.int .i64)) ∧
      ((∀ p ∈ ps, B < p ∧ p < w'.heap.size) ∧ ∀ j, j < ps.length → w'.heap[ps.getD j 0]? = some (.cells #[.int .i64 (hs.getD j 0)] 3 (0, 0))) ∧ Below B w w' := by
  have hg := grownBy_set wr B o v
  have n1 : vi.ownBlock ≠ some B := fun e => by have := (I.ri.lt B e).1; omega
  have n2 : vf.ownBlock ≠ some B := fun e => by have := (I.rf.lt B e).1; omega
  have n3 : vh.ownBlock ≠ some B := fun e => by have := (I.rh.lt B e).1; omega
  exact ⟨I.ri.kept hg (.inr n1), I.rf.kept hg (.inr n2), I.rh.kept hg (.inr n3), I.nums hg (fun p hp e => by have := (I.pb p hp).1; cases e; omega), I.under hg (fun k e => by cases e; exact Nat.le_refl _)⟩

theorem Inv.used (I : Inv B w wr vi vf vh ps hs fs ks u) (u' : Nat) : Inv B w (wr.setCell ⟨B, 1, none⟩ (.int .i64 u')) vi vf vh ps hs fs ks u' := by
  obtain ⟨a, b, c, ⟨d, e⟩, f⟩ := I.setStock 1 (.int .i64 u')
  exact ⟨(World.cell?_setCell_other _ _ _ _ (by simp)).trans I.c0, World.cell?_setCell_same _ _ _ I.c1, (World.frozen?_setCell _ _ _ _).trans I.f0, (World.frozen?_setCell _ _ _ _).trans I.f1,
    a, b, c, I.di, I.df, I.dh, I.pl, d, e, I.nd, f⟩

/-- 'firsts = append(firsts, p)' (behind the laying of p in a block of its own). -/
theorem Inv.firsts (I : Inv B w wr vi vf vh ps hs fs ks u) {q g cap : Nat} {w1 : World}
    (hown : w1.ownsRow (B + 1) 28 1 (.slice (some ⟨g, 0, none⟩) (fs.length + 1) cap) (fs.length + 1) (ptrs fs ++ [.pointer (some ⟨q, 0, none⟩)])) (hg : wr.grownBy w1 vf.ownBlock)
    (hat : vf.ownBlock = some g ∨ g = wr.heap.size) : Inv B w w1 vi (.slice (some ⟨g, 0, none⟩) (fs.length + 1) cap) vh ps hs (fs ++ [q]) ks u := by
  have n2 : vf.ownBlock ≠ some B := fun e => by have := (I.rf.lt B e).1; omega
  obtain ⟨a, b, c, d⟩ := I.stock hg (fun e => n2 e.symm)
  obtain ⟨e, f⟩ := I.nums hg (fun p hp e => (I.df p e.symm).2 hp)
  have hi : vi.ownBlock = none ∨ vi.ownBlock ≠ vf.ownBlock := by
    cases h : vi.ownBlock with
    | none => exact .inl rfl
    | some x => exact .inr fun e => (I.di x h).1 e.symm
  have hh : vh.ownBlock = none ∨ vh.ownBlock ≠ vf.ownBlock := by
    cases h : vh.ownBlock with
    | none => exact .inl rfl
    | some x => exact .inr fun e => (I.df x e.symm).1 h
  refine ⟨a, b, c, d, I.ri.kept hg hi, ?_, I.rh.kept hg hh, ?_, ?_, I.dh, I.pl, e, f, I.nd, I.under hg (fun k e => by have := (I.rf.lt k e).1; omega)⟩
  · simpa [ptrs] using hown
  · intro x hx
    refine ⟨?_, (I.di x hx).2.1, (I.di x hx).2.2⟩
    simp only [Value.ownBlock, ne_eq, Option.some.injEq]
    rintro rfl
    rcases hat with hat | rfl
    · exact (I.di _ hx).1 hat
    · have := (I.ri.lt _ hx).2; omega
  · intro x hx
    simp only [Value.ownBlock, Option.some.injEq] at hx
    subst hx
    rcases hat with hat | rfl
    · exact I.df _ hat
    · exact ⟨fun e => by have := (I.rh.lt _ e).2; omega, fun hp => by have := (I.pb _ hp).2; omega⟩

/-- 'held = append(held, 0)'. -/
theorem Inv.held (I : Inv B w wr vi vf vh ps hs fs ks u) {x : Int} {g cap : Nat} {w1 : World}
    (hown : w1.ownsRow (B + 1) 3 1 (.slice (some ⟨g, 0, none⟩) (ks.length + 1) cap) (ks.length + 1) (ks.map (Value.int .i64) ++ [.int .i64 x])) (hg : wr.grownBy w1 vh.ownBlock)
    (hat : vh.ownBlock = some g ∨ g = wr.heap.size) : Inv B w w1 vi vf (.slice (some ⟨g, 0, none⟩) (ks.length + 1) cap) ps hs fs (ks ++ [x]) u := by
  have n3 : vh.ownBlock ≠ some B := fun e => by have := (I.rh.lt B e).1; omega
  obtain ⟨a, b, c, d⟩ := I.stock hg (fun e => n3 e.symm)
  obtain ⟨e, f⟩ := I.nums hg (fun p hp e => (I.dh p e.symm) hp)
  have hi : vi.ownBlock = none ∨ vi.ownBlock ≠ vh.ownBlock := by
    cases h : vi.ownBlock with
    | none => exact .inl rfl
    | some x => exact .inr fun e => (I.di x h).2.1 e.symm
  have hf : vf.ownBlock = none ∨ vf.ownBlock ≠ vh.ownBlock := by
    cases h : vf.ownBlock with
    | none => exact .inl rfl
    | some x => exact .inr fun e => (I.df x h).1 e.symm
  refine ⟨a, b, c, d, I.ri.kept hg hi, I.rf.kept hg hf, ?_, ?_, ?_, ?_, I.pl, e, f, I.nd, I.under hg (fun k e => by have := (I.rh.lt k e).1; omega)⟩
  · simpa using hown
  · intro y hy
    refine ⟨(I.di y hy).1, ?_, (I.di y hy).2.2⟩
    simp only [Value.ownBlock, ne_eq, Option.some.injEq]
    rintro rfl
    rcases hat with hat | rfl
    · exact (I.di _ hy).2.1 hat
    · have := (I.ri.lt _ hy).2; omega
  · intro y hy
    refine ⟨?_, (I.df y hy).2⟩
    simp only [Value.ownBlock, ne_eq, Option.some.injEq]
    rintro rfl
    rcases hat with hat | rfl
    · exact (I.df _ hy).1 hat
    · have := (I.rf.lt _ hy).2; omega
  · intro y hy
    simp only [Value.ownBlock, Option.some.injEq] at hy
    subst hy
    rcases hat with hat | rfl
    · exact I.dh _ hat
    · exact fun hp => by have := (I.pb _ hp).2; omega

/-- '*p = x', p the j-th that was handed out. -/
theorem Inv.storeP (I : Inv B w wr vi vf vh ps hs fs ks u) {j : Nat} (hj : j < ps.length) (x : Int) :
    Inv B w (wr.setCell ⟨ps.getD j 0, 0, none⟩ (.int .i64 x)) vi vf vh ps (hs.set j x) fs ks u := by
  have hm := getD_mem hj
  have hg := grownBy_set wr (ps.getD j 0) 0 (.int .i64 x)
  have hB := (I.pb _ hm).1
  obtain ⟨a, b, c, d⟩ := I.stock hg (fun e => by cases e; omega)
  have hi : vi.ownBlock ≠ some (ps.getD j 0) := fun e => (I.di _ e).2.2 hm
  have hf : vf.ownBlock ≠ some (ps.getD j 0) := fun e => (I.df _ e).2 hm
  have hh : vh.ownBlock ≠ some (ps.getD j 0) := fun e => (I.dh _ e) hm
  refine ⟨a, b, c, d, I.ri.kept hg (.inr hi), I.rf.kept hg (.inr hf), I.rh.kept hg (.inr hh), I.di, I.df, I.dh, by simp [I.pl], fun p hp => by rw [World.size_setCell]; exact I.pb p hp, ?_, I.nd, I.under hg (fun k e => by cases e; omega)⟩
  intro i hi'
  by_cases hij : i = j
  · subst hij
    have h := I.ph i hi'
    have hl : i < hs.length := by rw [I.pl]; exact hi'
    simp only [World.setCell, Array.getElem?_modify, if_true, h, Option.map_some]
    simp [List.getD, hl]
  · have hne : ps.getD i 0 ≠ ps.getD j 0 := by
      intro e
      rw [List.getD_eq_getElem?_getD, List.getD_eq_getElem?_getD, List.getElem?_eq_getElem hi', List.getElem?_eq_getElem hj] at e
      exact hij ((List.getElem_inj I.nd).1 e)
    rw [Below.heap_setCell _ _ _ _ hne, I.ph i hi']
    congr 5
    simp [List.getD, Ne.symm hij]

/-- 'held[j] = x'. -/
theorem Inv.storeK {gh cap : Nat} (I : Inv B w wr vi vf (.slice (some ⟨gh, 0, none⟩) ks.length cap) ps hs fs ks u) (j : Nat) (x : Int) :
    Inv B w (wr.setCell ⟨gh, j, none⟩ (.int .i64 x)) vi vf (.slice (some ⟨gh, 0, none⟩) (ks.set j x).length cap) ps hs fs (ks.set j x) u := by
  obtain ⟨ho, hg⟩ := I.rh.stored j (.int .i64 x)
  have hB := (I.rh.lt gh rfl).1
  obtain ⟨a, b, c, d⟩ := I.stock hg (fun e => by cases e; omega)
  obtain ⟨e, f⟩ := I.nums hg (fun p hp e => by cases e; exact I.dh _ rfl hp)
  have hi : vi.ownBlock ≠ some gh := fun e => (I.di _ e).2.1 rfl
  have hf : vf.ownBlock ≠ some gh := fun e => (I.df _ e).1 rfl
  refine ⟨a, b, c, d, I.ri.kept hg (.inr hi), I.rf.kept hg (.inr hf), ?_, I.di, I.df, I.dh, I.pl, e, f, I.nd, I.under hg (fun k e => by cases e; omega)⟩
  rw [List.length_set, List.map_set]
  exact ho

/-- 's.items = append(s.items, new(int))': the new number q; the append behind the two blocks that were laid; the store into the field. -/
theorem Inv.items (I : Inv B w wr vi vf vh ps hs fs ks u) {g cap : Nat} {w3 : World}
    (hown : w3.ownsRow (B + 1) 28 1 (.slice (some ⟨g, 0, none⟩) (ps.length + 1) cap) (ps.length + 1) (ptrs ps ++ [.pointer (some ⟨wr.heap.size, 0, none⟩)]))
    (hg : ((wr.alloc (.cells #[.int .i64 0] 3)).alloc (.cells #[.pointer (some ⟨wr.heap.size, 0, none⟩)] 28)).grownBy w3 vi.ownBlock)
    (hat : vi.ownBlock = some g ∨ g = wr.heap.size + 1 + 1) :
    Inv B w (w3.setCell ⟨B, 0, none⟩ (.slice (some ⟨g, 0, none⟩) (ps.length + 1) cap)) (.slice (some ⟨g, 0, none⟩) (ps.length + 1) cap) vf vh (ps ++ [wr.heap.size]) (hs ++ [0]) fs ks u := by
  have n1 : vi.ownBlock ≠ some B := fun e => by have := (I.ri.lt B e).1; omega
  have hlt := I.lt
  have I2 : Inv B w ((wr.alloc (.cells #[.int .i64 0] 3)).alloc (.cells #[.pointer (some ⟨wr.heap.size, 0, none⟩)] 28)) vi vf vh ps hs fs ks u := (I.grow (World.grownBy_alloc _ _ _)).grow (World.grownBy_alloc _ _ _)
  have hsz : ((wr.alloc (.cells #[.int .i64 0] 3)).alloc (.cells #[.pointer (some ⟨wr.heap.size, 0, none⟩)] 28)).heap.size = wr.heap.size + 1 + 1 := by simp
  have hq : ((wr.alloc (.cells #[.int .i64 0] 3)).alloc (.cells #[.pointer (some ⟨wr.heap.size, 0, none⟩)] 28)).heap[wr.heap.size]? = some (.cells #[.int .i64 0] 3 (0, 0)) := by
    rw [Below.heap_alloc _ _ _ (by simp)]
    exact heap_alloc_new wr _
  have hnq : vi.ownBlock ≠ some wr.heap.size := fun e => by have := (I.ri.lt _ e).2; omega
  obtain ⟨a, b, c, d⟩ := I2.stock hg (fun e => n1 e.symm)
  obtain ⟨e, f⟩ := I2.nums hg (fun p hp e => (I.di p e.symm).2.2 hp)
  have hqq : w3.heap[wr.heap.size]? = some (.cells #[.int .i64 0] 3 (0, 0)) := by
    rw [hg.block _ (by simp; omega) (fun e => hnq e.symm)]; exact hq
  have hf : vf.ownBlock = none ∨ vf.ownBlock ≠ vi.ownBlock := by
    cases h : vi.ownBlock with
    | none => cases vf.ownBlock <;> simp
    | some x => exact .inr (I.di x h).1
  have hh : vh.ownBlock = none ∨ vh.ownBlock ≠ vi.ownBlock := by
    cases h : vi.ownBlock with
    | none => cases vh.ownBlock <;> simp
    | some x => exact .inr (I.di x h).2.1
  have r2 := I2.rf.kept hg hf
  have r3 := I2.rh.kept hg hh
  have gs := grownBy_set w3 B 0 (.slice (some ⟨g, 0, none⟩) (ps.length + 1) cap)
  have hgB : B + 1 ≤ g := (hown.lt g rfl).1
  have n2 : vf.ownBlock ≠ some B := fun e => by have := (I.rf.lt B e).1; omega
  have n3 : vh.ownBlock ≠ some B := fun e => by have := (I.rh.lt B e).1; omega
  have hs3 : wr.heap.size < w3.heap.size := by have := hg.size; omega
  refine ⟨World.cell?_setCell_same _ _ _ a, (World.cell?_setCell_other _ _ _ _ (by simp)).trans b, (World.frozen?_setCell _ _ _ _).trans c, (World.frozen?_setCell _ _ _ _).trans d,
    ?_, r2.kept gs (.inr n2), r3.kept gs (.inr n3), ?_, ?_, ?_, by simp [I.pl], ?_, ?_, ?_, ?_⟩
  · rw [List.length_append]
    have := hown.kept gs (.inr (by simp [Value.ownBlock]; omega))
    simpa [ptrs] using this
  · intro x hx
    simp only [Value.ownBlock, Option.some.injEq] at hx
    subst hx
    rcases hat with hat | rfl
    · refine ⟨(I.di _ hat).1, (I.di _ hat).2.1, ?_⟩
      rw [List.mem_append, not_or]
      exact ⟨(I.di _ hat).2.2, by rw [List.mem_singleton]; rintro rfl; exact hnq hat⟩
    · refine ⟨fun e => by have := (I.rf.lt _ e).2; omega, fun e => by have := (I.rh.lt _ e).2; omega, ?_⟩
      rw [List.mem_append, not_or]
      exact ⟨fun hp => by have := (I.pb _ hp).2; omega, by rw [List.mem_singleton]; omega⟩
  · intro x hx
    refine ⟨(I.df x hx).1, ?_⟩
    rw [List.mem_append, not_or]
    exact ⟨(I.df x hx).2, by rw [List.mem_singleton]; rintro rfl; have := (I.rf.lt _ hx).2; omega⟩
  · intro x hx
    rw [List.mem_append, not_or]
    exact ⟨I.dh x hx, by rw [List.mem_singleton]; rintro rfl; have := (I.rh.lt _ hx).2; omega⟩
  · intro p hp
    rw [World.size_setCell]
    rcases List.mem_append.1 hp with hp | hp
    · exact e p hp
    · rw [List.mem_singleton] at hp; subst hp; exact ⟨hlt, hs3⟩
  · intro j hj
    rw [List.length_append, List.length_singleton] at hj
    by_cases hjl : j < ps.length
    · have e1 : (ps ++ [wr.heap.size]).getD j 0 = ps.getD j 0 := by simp [List.getD, List.getElem?_append_left hjl]
      have e2 : (hs ++ [0]).getD j 0 = hs.getD j 0 := by simp [List.getD, List.getElem?_append_left (show j < hs.length by rw [I.pl]; exact hjl)]
      rw [e1, e2, Below.heap_setCell _ _ _ _ (fun h => by have := (I.pb _ (getD_mem hjl)).1; simp only at h; omega)]
      exact f j hjl
    · obtain rfl : j = ps.length := by omega
      have e1 : (ps ++ [wr.heap.size]).getD ps.length 0 = wr.heap.size := by simp [List.getD]
      have e2 : (hs ++ [0]).getD ps.length 0 = 0 := by rw [← I.pl]; simp [List.getD]
      rw [e1, e2, Below.heap_setCell _ _ _ _ (fun h => by simp only at h; omega)]
      exact hqq
  · rw [List.nodup_append]
    refine ⟨I.nd, by simp, ?_⟩
    intro x hx y hy
    rw [List.mem_singleton] at hy
    subst hy
    intro e
    subst e
    have := (I.pb _ hx).2
    omega
  · exact (I2.under hg (fun k e => by have := (I.ri.lt k e).1; omega)).grown gs (by omega) (fun k e => by cases e; exact Nat.le_refl _)

/-- At the start: nothing handed out. -/
theorem inv_start (w : World) : Inv w.heap.size w (w.alloc (.cells #[.slice none 0 0, .int .i64 0] 26)) (.slice none 0 0) (.slice none 0 0) (.slice none 0 0) [] [] [] [] 0 :=
  ⟨World.cell?_alloc_at _ _ _ _ rfl, World.cell?_alloc_at _ _ _ _ rfl, World.frozen?_alloc_at _ _ _ _ rfl, World.frozen?_alloc_at _ _ _ _ rfl,
    World.ownsRow_nil _ _ _ _, World.ownsRow_nil _ _ _ _, World.ownsRow_nil _ _ _ _, fun g h => by simp [Value.ownBlock] at h, fun g h => by simp [Value.ownBlock] at h, fun g h => by simp [Value.ownBlock] at h,
    rfl, fun p hp => by simp at hp, fun j hj => by simp at hj, by simp, (Below.refl _ _).alloc (Nat.le_refl _) _⟩

/-- The cell of the j-th number. -/
theorem Inv.cellP (I : Inv B w wr vi vf vh ps hs fs ks u) {j : Nat} (hj : j < ps.length) : wr.cell? ⟨ps.getD j 0, 0, none⟩ = some (.int .i64 (hs.getD j 0)) ∧ wr.frozen? ⟨ps.getD j 0, 0, none⟩ = false := by
  have h := I.ph j hj
  refine ⟨by rw [cell_of_row wr _ _ _ _ _ h]; rfl, ?_⟩
  simp only [World.frozen?, h]
  rfl

end
end Go.Proofs.Ybulkcote.lawS4528BScript
