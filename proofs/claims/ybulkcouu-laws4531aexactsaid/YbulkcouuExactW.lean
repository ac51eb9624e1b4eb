/-
  THE WALKS OF 'LawS4531AExact'.
-/
import Derived.Test.YbulkcouuOff
import Derived.Laws.AppendOwnNone
import Derived.Deep.QuietTactic
import Derived.BigQuiet
namespace Go.Proofs.Ybulkcouu.lawS4531AExact
open Go.RowKit Go.Proofs.Ybulkcouu.Off
set_option linter.unusedVariables false

/-- 'append(out, src...)', out nil or the call's own, src nil or not. -/
theorem append_any {P : Program} (w : World) {ops : Array Oper} {rest : List Oper} {o : Oper} {a : Act} {Q : Exit → Act → World → Prop} (hgd : o.guard = none) (s x : Operand) (t : TypeId)
    (ho : o.op = .call { callee := .builtin .append, args := #[s, x], argTypes := #[t, t] })
    (base : Nat) (e : TypeId) (i : TypeInfo) (z : Value) (size bytes : Nat) (ht : P.underlying t = some (.slice e)) (hi : P.info? e = some i) (hz : i.zero = some z)
    (hsize : i.size = size) (hby : i.bytes = bytes) (hzs : z.cells.size = size) (hsz : 0 < size)
    (v : Value) (n : Nat) (xs : List Value) (hs : a.eval s = v) (hown : w.ownsRow base e size v n xs)
    (ao : Option Addr) (m c : Nat) (news : List Value) (hx : a.eval x = .slice ao m c) (hnone : ao = none → m = 0 ∧ c = 0) (hl : news.length = m * size) (hnews : ∀ ad, ao = some ad → ∀ j u, news[j]? = some u → w.cell? (ad.add j) = some u) (h1 : ∀ u ∈ news, u.oneCell' = true)
    (h63 : n + m ≤ maxLen) (hbytes : (n + m) * bytes ≤ 140737488355328) (hbase : base ≤ w.heap.size)
    (h : ∀ v' w', w'.ownsRow base e size v' (n + m) (xs ++ news) → w.grownBy w' v.ownBlock → wpList P ops Q rest (a.put o.dst v') w') : wpList P ops Q (o :: rest) a w := by
  cases ao with
  | some ad => exact wpList_append_own w hgd s x t ho base e i z size bytes ht hi hz hsize hby hzs hsz v n xs hs hown ad m c news hx hl (hnews ad rfl) h1 h63 hbytes hbase (fun v' w' a b _ => h v' w' a b)
  | none =>
    obtain ⟨rfl, rfl⟩ := hnone rfl
    obtain rfl : news = [] := List.eq_nil_of_length_eq_zero (by simpa using hl)
    exact wpList_append_own_none hgd s x t ho base e i size ht hi v n xs hs hown hx (h v w (by simpa using hown) (World.grownBy.refl _ _))

theorem byts_at (xs : List Int) (j : Nat) (h : j < xs.length) : (byts xs)[j]? = some (.int .u8 (xs.getD j 0)) := by
  simp [byts, List.getD, h]

/-- The text's j-th byte behind the first len. -/
theorem text_at (xs ts : List Int) (len j : Nat) (h : xs.length = len) (hj : j < ts.length) : (byts (xs ++ ts))[len + j]? = some (.int .u8 (ts.getD j 0)) := by
  subst h
  rw [byts_at _ _ (by simp; omega)]
  rw [List.getD_eq_getElem?_getD, List.getD_eq_getElem?_getD, List.getElem?_append_right (by omega), Nat.add_sub_cancel_left]

theorem pre_at (zs ts : List Int) (len j : Nat) (hj : j < len) (h : len ≤ zs.length) : (byts (zs.take len ++ ts))[j]? = some (.int .u8 (zs.getD j 0)) := by
  rw [byts_at _ _ (by simp; omega)]
  simp [List.getD, List.getElem?_append_left (show j < (zs.take len).length by simp; omega), hj]

/-- The law's own model of the nine bytes. -/
def want (s a : Int) : Array Value :=
  #[.int .u8 s, .int .u8 (48 + a / 3600 / 10), .int .u8 (48 + a / 3600 % 10), .int .u8 58, .int .u8 (48 + (a - a / 3600 * 3600) / 60 / 10), .int .u8 (48 + (a - a / 3600 * 3600) / 60 % 10), .int .u8 58,
    .int .u8 (48 + (a - a / 3600 * 3600 - (a - a / 3600 * 3600) / 60 * 60) / 10), .int .u8 (48 + (a - a / 3600 * 3600 - (a - a / 3600 * 3600) / 60 * 60) % 10)]

theorem want_eq (s a : Int) : want s a = (byts (text s a)).toArray := by
  have e1 : (a - a / 3600 * 3600) / 60 = a / 60 % 60 := by omega
  have e2 : a - a / 3600 * 3600 - (a - a / 3600 * 3600) / 60 * 60 = a % 60 := by omega
  unfold want
  rw [e2, e1]
  rfl

theorem start2 {w wr : World} {g len c2 : Nat} {zs : List Int} {s a : Int} (hlz : len ≤ zs.length) (r : wr.ownsRow w.heap.size 5 1 (.slice (some ⟨g, 0, none⟩) (len + 9) c2) (len + 9) (byts (zs.take len ++ text s a))) (bl : Below w.heap.size w wr) :
    (∀ t, t < 9 → (wr.alloc (.cells (want s a) 24)).cell? ⟨g, len + t, none⟩ = some (.int .u8 ((text s a).getD t 0)) ∧ (wr.alloc (.cells (want s a) 24)).cell? ⟨wr.heap.size, t, none⟩ = some (.int .u8 ((text s a).getD t 0))) ∧
      Below w.heap.size w (wr.alloc (.cells (want s a) 24)) := by
  refine ⟨fun t ht => ⟨?_, ?_⟩, bl.alloc bl.size _⟩
  · rw [World.cell?_alloc_past _ _ _ (r.lt g rfl).2, r.cellAt _ (by omega)]
    exact text_at _ _ len t (by simp; omega) ht
  · rw [World.cell?_alloc_at _ _ _ _ rfl, want_eq]
    simpa using byts_at (text s a) t ht

set_option maxRecDepth 100000 in
set_option maxHeartbeats 1000000 in
theorem walk_pos (ao : Option Addr) (len cap : Nat) (zs : List Int) (a : Int) (w : World) (hlen : len ≤ 1024) (ha : 0 ≤ a) (ha' : a < 360000) (hlz : len ≤ zs.length) (hnone : ao = none → len = 0 ∧ cap = 0)
    (hcell : ∀ x, ao = some x → ∀ i, i < zs.length → w.cell? (x.add i) = some (.int .u8 (zs.getD i 0)))
    (hao : 0 < len → ∃ b off, ao = some ⟨b, off, none⟩ ∧ b < w.heap.size ∧ ∀ j, j < len → w.cell? ⟨b, off + j, none⟩ = some (.int .u8 (zs.getD j 0))) :
    Calls Yba.prog 3 #[.slice ao len cap, .int .i64 a] w fun e w' => e = .returned (.bool true) ∧ Below w.heap.size w w' := by
  have HA : Hid (0 < len → ∃ b off, ao = some ⟨b, off, none⟩ ∧ b < w.heap.size ∧ ∀ j, j < len → w.cell? ⟨b, off + j, none⟩ = some (.int .u8 (zs.getD j 0))) := hao
  have HC : Hid (∀ x, ao = some x → ∀ j u, (byts (zs.take len))[j]? = some u → w.cell? (x.add j) = some u) := fun x hx j u hu => by
    have hj : j < len := by have := (List.getElem?_eq_some_iff.1 hu).1; simp [byts] at this; omega
    have e := pre_at zs [] len j hj hlz
    rw [List.append_nil] at e
    rw [e] at hu
    rw [hcell x hx j (by omega)]
    exact hu
  have HL : Hid ((zs.take len).length = len) := by show (zs.take len).length = len; simp; omega
  have HN : Hid (ao = none → len = 0 ∧ cap = 0) := hnone
  clear hao hcell hnone
  obtain ⟨i0, hi, hz0, hz1, hz2⟩ := info_parts info5
  go_enter Yba.func3, Yba.ntmps3
  go_wp2_with (first
    | (at_builtin; refine append_any _ rfl _ (.tmp 27) 22 rfl w.heap.size 5 i0 _ 1 1 Yba.underlying22 hi hz0 hz1 hz2 rfl (by decide) (.slice none 0 0) 0 [] rfl (World.ownsRow_nil _ _ _ _) ao len cap (byts (zs.take len)) rfl HN.out (by rw [byts, List.length_map, HL.out]; omega) HC.out (ints_oneCell _ _) (by unfold maxLen; omega) (by omega) (Nat.le_refl _) ?_; intro v0 w1 hown1 hgrow1; have r1 : w1.ownsRow w.heap.size 5 1 v0 len (byts (zs.take len)) := (by simpa using hown1); have b1 : Below w.heap.size w w1 := (Below.refl _ _).grown hgrow1 (Nat.le_refl _) (fun k h => by cases h); clear hown1 hgrow1)
    | (go_at_call 5; refine (off_pos w.heap.size v0 len (zs.take len) a w1 r1 (by omega) ha ha' b1.size).mono ?_; rintro e w2 ⟨v2, rfl, r2, b2⟩; obtain ⟨g, c2, rfl, _, hg2⟩ := r2.form (by omega); have b3 : Below w.heap.size w w2 := b1.trans b2; clear r1 b1 b2))
  go_loopw [7] (fun i wx => ∃ j : Nat, j ≤ len ∧ i = .int .i64 j ∧ wx.ownsRow w.heap.size 5 1 (.slice (some ⟨g, 0, none⟩) (len + 9) c2) (len + 9) (byts (zs.take len ++ text 43 a)) ∧ Below w.heap.size w wx)
    (fun i _ => len - (intOf i).toNat)
  case atStart => exact ⟨0, Nat.zero_le _, rfl, r2, b3⟩
  case round =>
    obtain ⟨j, hj, rfl, r, bl⟩ := hrel
    clear r2 b3 hg2
    by_cases hjl : j < len
    · obtain ⟨b, off, rfl, hb, hc⟩ := HA.out (by omega)
      obtain ⟨z, hz⟩ : ∃ z, z = zs.getD j 0 := ⟨_, rfl⟩
      have hcx : wr.cell? ⟨b, off + j, none⟩ = some (.int .u8 z) := by rw [hz]; exact (bl.cell (by exact hb)).trans (hc j hjl)
      have hgx : wr.cell? ⟨g, j, none⟩ = some (.int .u8 z) := by rw [hz, r.cellAt j (by omega)]; exact pre_at zs _ len j hjl hlz
      have hji : (j : Int) < (len : Int) := by omega
      have HR : Hid (wr.ownsRow w.heap.size 5 1 (.slice (some ⟨g, 0, none⟩) (len + 9) c2) (len + 9) (byts (zs.take len ++ text 43 a))) := r
      clear hz hc r
      go_wp2
      go_quiet (fail)
      go_wp2
      go_roundw
      case rel => exact ⟨j + 1, by omega, by go_num, HR.out, below_drewN bl _⟩
      case measure => simp [intOf]; omega
    · go_wp2
      go_loopw [15] (fun i wx => ∃ j : Nat, j ≤ 9 ∧ i = .int .i64 j ∧ (∀ t, t < 9 → wx.cell? ⟨g, len + t, none⟩ = some (.int .u8 ((text 43 a).getD t 0)) ∧ wx.cell? ⟨wr.heap.size, t, none⟩ = some (.int .u8 ((text 43 a).getD t 0))) ∧ Below w.heap.size w wx)
        (fun i _ => 9 - (intOf i).toNat)
      case atStart => exact ⟨0, Nat.zero_le _, rfl, start2 hlz r bl⟩
      case round =>
        obtain ⟨t, ht, rfl, hall, bx⟩ := hrel
        clear r bl
        by_cases ht9 : t < 9
        · obtain ⟨h1, h2⟩ := hall t ht9
          obtain ⟨z, hz⟩ : ∃ z, z = (text 43 a).getD t 0 := ⟨_, rfl⟩
          rw [← hz] at h1 h2
          have HR : Hid (∀ t, t < 9 → wr.cell? ⟨g, len + t, none⟩ = some (.int .u8 ((text 43 a).getD t 0)) ∧ wr.cell? _ = some (.int .u8 ((text 43 a).getD t 0))) := hall
          have hti : (t : Int) < 9 := by omega
          clear hz hall
          go_wp2
          go_quiet (fail)
          go_wp2
          go_roundw
          case rel => exact ⟨t + 1, by omega, by go_num, HR.out, below_drewN bx _⟩
          case measure => simp [intOf]; omega
        · clear hall
          go_wp2
          go_ret
          exact ⟨rfl, bx⟩

set_option maxRecDepth 100000 in
set_option maxHeartbeats 1000000 in
theorem walk_neg (ao : Option Addr) (len cap : Nat) (zs : List Int) (a : Int) (w : World) (hlen : len ≤ 1024) (ha : 0 < a) (ha' : a < 360000) (hlz : len ≤ zs.length) (hnone : ao = none → len = 0 ∧ cap = 0)
    (hcell : ∀ x, ao = some x → ∀ i, i < zs.length → w.cell? (x.add i) = some (.int .u8 (zs.getD i 0)))
    (hao : 0 < len → ∃ b off, ao = some ⟨b, off, none⟩ ∧ b < w.heap.size ∧ ∀ j, j < len → w.cell? ⟨b, off + j, none⟩ = some (.int .u8 (zs.getD j 0))) :
    Calls Yba.prog 3 #[.slice ao len cap, .int .i64 (-a)] w fun e w' => e = .returned (.bool true) ∧ Below w.heap.size w w' := by
  have HA : Hid (0 < len → ∃ b off, ao = some ⟨b, off, none⟩ ∧ b < w.heap.size ∧ ∀ j, j < len → w.cell? ⟨b, off + j, none⟩ = some (.int .u8 (zs.getD j 0))) := hao
  have HC : Hid (∀ x, ao = some x → ∀ j u, (byts (zs.take len))[j]? = some u → w.cell? (x.add j) = some u) := fun x hx j u hu => by
    have hj : j < len := by have := (List.getElem?_eq_some_iff.1 hu).1; simp [byts] at this; omega
    have e := pre_at zs [] len j hj hlz
    rw [List.append_nil] at e
    rw [e] at hu
    rw [hcell x hx j (by omega)]
    exact hu
  have HL : Hid ((zs.take len).length = len) := by show (zs.take len).length = len; simp; omega
  have HN : Hid (ao = none → len = 0 ∧ cap = 0) := hnone
  clear hao hcell hnone
  obtain ⟨i0, hi, hz0, hz1, hz2⟩ := info_parts info5
  go_enter Yba.func3, Yba.ntmps3
  go_wp2_with (first
    | (at_builtin; refine append_any _ rfl _ (.tmp 27) 22 rfl w.heap.size 5 i0 _ 1 1 Yba.underlying22 hi hz0 hz1 hz2 rfl (by decide) (.slice none 0 0) 0 [] rfl (World.ownsRow_nil _ _ _ _) ao len cap (byts (zs.take len)) rfl HN.out (by rw [byts, List.length_map, HL.out]; omega) HC.out (ints_oneCell _ _) (by unfold maxLen; omega) (by omega) (Nat.le_refl _) ?_; intro v0 w1 hown1 hgrow1; have r1 : w1.ownsRow w.heap.size 5 1 v0 len (byts (zs.take len)) := (by simpa using hown1); have b1 : Below w.heap.size w w1 := (Below.refl _ _).grown hgrow1 (Nat.le_refl _) (fun k h => by cases h); clear hown1 hgrow1)
    | (go_at_call 5; refine (off_neg w.heap.size v0 len (zs.take len) a w1 r1 (by omega) ha ha' b1.size).mono ?_; rintro e w2 ⟨v2, rfl, r2, b2⟩; obtain ⟨g, c2, rfl, _, hg2⟩ := r2.form (by omega); have b3 : Below w.heap.size w w2 := b1.trans b2; clear r1 b1 b2))
  go_loopw [7] (fun i wx => ∃ j : Nat, j ≤ len ∧ i = .int .i64 j ∧ wx.ownsRow w.heap.size 5 1 (.slice (some ⟨g, 0, none⟩) (len + 9) c2) (len + 9) (byts (zs.take len ++ text 45 a)) ∧ Below w.heap.size w wx)
    (fun i _ => len - (intOf i).toNat)
  case atStart => exact ⟨0, Nat.zero_le _, rfl, r2, b3⟩
  case round =>
    obtain ⟨j, hj, rfl, r, bl⟩ := hrel
    clear r2 b3 hg2
    by_cases hjl : j < len
    · obtain ⟨b, off, rfl, hb, hc⟩ := HA.out (by omega)
      obtain ⟨z, hz⟩ : ∃ z, z = zs.getD j 0 := ⟨_, rfl⟩
      have hcx : wr.cell? ⟨b, off + j, none⟩ = some (.int .u8 z) := by rw [hz]; exact (bl.cell (by exact hb)).trans (hc j hjl)
      have hgx : wr.cell? ⟨g, j, none⟩ = some (.int .u8 z) := by rw [hz, r.cellAt j (by omega)]; exact pre_at zs _ len j hjl hlz
      have hji : (j : Int) < (len : Int) := by omega
      have HR : Hid (wr.ownsRow w.heap.size 5 1 (.slice (some ⟨g, 0, none⟩) (len + 9) c2) (len + 9) (byts (zs.take len ++ text 45 a))) := r
      clear hz hc r
      go_wp2
      go_quiet (fail)
      go_wp2
      go_roundw
      case rel => exact ⟨j + 1, by omega, by go_num, HR.out, below_drewN bl _⟩
      case measure => simp [intOf]; omega
    · go_wp2
      go_loopw [15] (fun i wx => ∃ j : Nat, j ≤ 9 ∧ i = .int .i64 j ∧ (∀ t, t < 9 → wx.cell? ⟨g, len + t, none⟩ = some (.int .u8 ((text 45 a).getD t 0)) ∧ wx.cell? ⟨wr.heap.size, t, none⟩ = some (.int .u8 ((text 45 a).getD t 0))) ∧ Below w.heap.size w wx)
        (fun i _ => 9 - (intOf i).toNat)
      case atStart => exact ⟨0, Nat.zero_le _, rfl, start2 hlz r bl⟩
      case round =>
        obtain ⟨t, ht, rfl, hall, bx⟩ := hrel
        clear r bl
        by_cases ht9 : t < 9
        · obtain ⟨h1, h2⟩ := hall t ht9
          obtain ⟨z, hz⟩ : ∃ z, z = (text 45 a).getD t 0 := ⟨_, rfl⟩
          rw [← hz] at h1 h2
          have HR : Hid (∀ t, t < 9 → wr.cell? ⟨g, len + t, none⟩ = some (.int .u8 ((text 45 a).getD t 0)) ∧ wr.cell? _ = some (.int .u8 ((text 45 a).getD t 0))) := hall
          have hti : (t : Int) < 9 := by omega
          clear hz hall
          go_wp2
          go_quiet (fail)
          go_wp2
          go_roundw
          case rel => exact ⟨t + 1, by omega, by go_num, HR.out, below_drewN bx _⟩
          case measure => simp [intOf]; omega
        · clear hall
          go_wp2
          go_ret
          exact ⟨rfl, bx⟩

end Go.Proofs.Ybulkcouu.lawS4531AExact
