import Derived.Test.Qxb6616109aDlD
namespace Go.Proofs.Qxb6616109a
open Go.RowKit Go.Deep Go.Joins Go.Shelf
attribute [local go_sem] Oper.semAt_some

/-- What of the table is read on granule g. -/
structure Tab (w : World) (p gHo gQ nG g : Nat) (A : Option Addr) (l cp : Nat) : Prop where
  c0 : w.cell? ⟨p, 0, none⟩ = some (.slice (some ⟨gHo, 0, none⟩) nG nG)
  c1 : w.cell? ⟨p, 1, none⟩ = some (.slice (some ⟨gQ, 0, none⟩) nG nG)
  ho : w.cell? ⟨gHo, g, none⟩ = some (.slice A l cp)
  qu : w.cell? ⟨gQ, g, none⟩ = some (.slice none 0 0)

theorem cell_newest (w : World) (cs : Array Value) (t : TypeId) (i : Nat) : (w.alloc (.cells cs t)).cell? ⟨w.heap.size, i, none⟩ = cs[i]? :=
  Joins.cell_of_block (blk_alloc_new _ _) i
theorem cell_older {w : World} {b i : Nat} (o : Obj) (hb : b < w.heap.size) : (w.alloc o).cell? ⟨b, i, none⟩ = w.cell? ⟨b, i, none⟩ :=
  World.cell?_of_block (Below.heap_alloc w o b hb)
theorem frozen_newest (w : World) (cs : Array Value) (t : TypeId) (i : Nat) : (w.alloc (.cells cs t)).frozen? ⟨w.heap.size, i, none⟩ = false := by
  have h := blk_alloc_new w (.cells cs t)
  unfold World.frozen?
  simp only [h]
  simp

/-- The world with the three boxes of waitsFor. -/
def wf3 (w : World) (p s : Nat) (A : Option Addr) (l c : Nat) (m : Int) : World := ((w.alloc (.cells #[.pointer (some ⟨p, 0, none⟩)] 22)).alloc (.cells #[.int .i64 (s : Int)] 3)).alloc (.cells #[.slice A l c, .int .u8 m] 54)
theorem wf3_below (w : World) (p s : Nat) (A : Option Addr) (l c : Nat) (m : Int) : Below w.heap.size w (wf3 w p s A l c m) := (((Below.refl _ w).alloc (Nat.le_refl _) _).alloc (by simp) _).alloc (by simp; omega) _
theorem wf3_size (w : World) (p s : Nat) (A : Option Addr) (l c : Nat) (m : Int) : (wf3 w p s A l c m).heap.size = w.heap.size + 3 := by simp [wf3]
theorem wf3_cells (w : World) (p s : Nat) (A : Option Addr) (l c : Nat) (m : Int) : (wf3 w p s A l c m).cell? ⟨w.heap.size, 0, none⟩ = some (.pointer (some ⟨p, 0, none⟩)) ∧ (wf3 w p s A l c m).cell? ⟨w.heap.size + 1, 0, none⟩ = some (.int .i64 s) ∧
    (wf3 w p s A l c m).cell? ⟨w.heap.size + 2, 0, none⟩ = some (.slice A l c) ∧ (wf3 w p s A l c m).cell? ⟨w.heap.size + 2, 1, none⟩ = some (.int .u8 m) := by
  have e1 : (w.alloc (.cells #[.pointer (some ⟨p, 0, none⟩)] 22)).heap.size = w.heap.size + 1 := by simp
  have e2 : ((w.alloc (.cells #[.pointer (some ⟨p, 0, none⟩)] 22)).alloc (.cells #[.int .i64 (s : Int)] 3)).heap.size = w.heap.size + 2 := by simp
  unfold wf3
  refine ⟨?_, ?_, ?_, ?_⟩
  · rw [cell_older _ (by omega), cell_older _ (by omega), cell_newest]; rfl
  · rw [cell_older _ (by omega), ← e1, cell_newest]; rfl
  · rw [← e2, cell_newest]; rfl
  · rw [← e2, cell_newest]; rfl

theorem asks_of {w : World} {p gHo gQ nG g s : Nat} {A : Option Addr} {l cp : Nat} {ho : Option Nat} {bg og c n₀ : Nat} {S : Nat → Prop} {m : Int} (hT : Tab w p gHo gQ nG g A l cp) (hr : HRow w A l ho) (hg : g < nG) (hbg : w.cell? ⟨bg, og, none⟩ = some (.int .i64 g))
    (hn : w.heap.size + 3 ≤ n₀) (hS : ∀ b, S b → b ≠ p ∧ b ≠ gHo ∧ b ≠ gQ ∧ A ≠ some ⟨b, 0, none⟩ ∧ b < w.heap.size) :
    Asks (wf3 w p s (some ⟨bg, og, none⟩) 1 c m) n₀ S (w.heap.size + 2) w.heap.size (w.heap.size + 1) p gHo gQ nG s (edge ho s) := by
  have hB := wf3_below w p s (some ⟨bg, og, none⟩) 1 c m
  obtain ⟨k1, k2, k3, k4⟩ := wf3_cells w p s (some ⟨bg, og, none⟩) 1 c m
  have kc : ∀ {a : Addr} {v : Value}, w.cell? a = some v → (wf3 w p s (some ⟨bg, og, none⟩) 1 c m).cell? a = some v := fun h => (hB.cell (World.block_lt_of_cell? w _ h)).trans h
  refine .inr ⟨bg, og, c, g, m, A, l, cp, ho, hg, k3, kc hbg, ⟨k4, k1, k2, kc hT.c0, kc hT.c1, kc hT.ho, kc hT.qu⟩, hr.later hB, ?_, ?_, rfl⟩
  · have e1 := World.block_lt_of_cell? w _ hT.c0
    have e2 := World.block_lt_of_cell? w _ hT.ho
    have e3 := World.block_lt_of_cell? w _ hT.qu
    dsimp only at e1 e2 e3
    intro x hx
    refine ⟨by omega, fun hSx => ?_⟩
    have := hS x hSx
    omega
  · intro b hA hne
    rcases hr with ⟨_, h⟩ | ⟨b', t, _, h2, _, h4, _⟩
    · exact absurd h hne
    · rw [hA] at h2
      simp only [Option.some.injEq, Addr.mk.injEq] at h2
      obtain ⟨rfl, _⟩ := h2
      have := World.block_lt_of_cell? w _ h4
      dsimp only at this
      exact ⟨by omega, fun hSx => (hS b hSx).2.2.2.1 hA⟩

set_option maxRecDepth 100000 in
set_option maxHeartbeats 2000000 in
theorem waits31 (p gHo gQ nG g s : Nat) (A : Option Addr) (l cp : Nat) (ho : Option Nat) (bg og c : Nat) (m : Int) (w : World) (hnG : nG ≤ 65536) (hg : g < nG) (hT : Tab w p gHo gQ nG g A l cp) (hr : HRow w A l ho) (hbg : w.cell? ⟨bg, og, none⟩ = some (.int .i64 g)) :
    Calls Try.prog 31 #[.pointer (some ⟨p, 0, none⟩), .int .i64 s, .agg #[.slice (some ⟨bg, og, none⟩) 1 c, .int .u8 m]] w fun e w' => e = .returned (.bool (!(edge ho s).isEmpty)) ∧ Below w.heap.size w w' := by
  refine (callsIn_wide (n := 5)).1 ?_
  have hB0 : Below w.heap.size w ((w.alloc (.cells #[.slice (some ⟨bg, og, none⟩) 1 c, .int .u8 m] 54)).alloc (.cells #[.bool false] 4)) := ((Below.refl _ w).alloc (Nat.le_refl _) _).alloc (by simp) _
  have hs0 : ((w.alloc (.cells #[.slice (some ⟨bg, og, none⟩) 1 c, .int .u8 m] 54)).alloc (.cells #[.bool false] 4)).heap.size = w.heap.size + 2 := by simp
  have hc0 : _ ∧ _ := ⟨cell_newest (w.alloc (.cells #[.slice (some ⟨bg, og, none⟩) 1 c, .int .u8 m] 54)) #[.bool false] 4 0, frozen_newest (w.alloc (.cells #[.slice (some ⟨bg, og, none⟩) 1 c, .int .u8 m] 54)) #[.bool false] 4 0⟩
  rw [World.size_alloc] at hc0
  have kw := waitsFor52 p s (some ⟨bg, og, none⟩) 1 c m ((w.alloc (.cells #[.slice (some ⟨bg, og, none⟩) 1 c, .int .u8 m] 54)).alloc (.cells #[.bool false] 4))
  obtain ⟨w1, hw1⟩ : ∃ w1, (w.alloc (.cells #[.slice (some ⟨bg, og, none⟩) 1 c, .int .u8 m] 54)).alloc (.cells #[.bool false] 4) = w1 := ⟨_, rfl⟩
  have HW1 : Hid ((w.alloc (.cells #[.slice (some ⟨bg, og, none⟩) 1 c, .int .u8 m] 54)).alloc (.cells #[.bool false] 4) = w1) := hw1
  rw [hw1] at hB0 hs0 hc0 kw
  have kc : ∀ {a : Addr} {v : Value}, w.cell? a = some v → w1.cell? a = some v := fun h => (hB0.cell (World.block_lt_of_cell? w _ h)).trans h
  have hT1 : Tab w1 p gHo gQ nG g A l cp := ⟨kc hT.c0, kc hT.c1, kc hT.ho, kc hT.qu⟩
  have hA := asks_of (s := s) (c := c) (m := m) (n₀ := w1.heap.size + 3) (S := fun _ => False) hT1 (hr.later hB0) hg (kc hbg) (Nat.le_refl _) (fun _ h => h.elim)
  have HA : Hid (Asks (wf3 w1 p s (some ⟨bg, og, none⟩) 1 c m) (w1.heap.size + 3) (fun _ => False) (w1.heap.size + 2) w1.heap.size (w1.heap.size + 1) p gHo gQ nG s (edge ho s)) := hA
  have KW : Hid (Calls Try.prog 52 #[.pointer (some ⟨p, 0, none⟩), .int .i64 s, .agg #[.slice (some ⟨bg, og, none⟩) 1 c, .int .u8 m]] w1 fun e w' => e = .returned (.func (.func 62) #[] #[.pointer (some ⟨w1.heap.size + 2, 0, none⟩), .pointer (some ⟨w1.heap.size, 0, none⟩), .pointer (some ⟨w1.heap.size + 1, 0, none⟩)]) ∧
      w' = ((w1.alloc (.cells #[.pointer (some ⟨p, 0, none⟩)] 22)).alloc (.cells #[.int .i64 s] 3)).alloc (.cells #[.slice (some ⟨bg, og, none⟩) 1 c, .int .u8 m] 54)) := kw
  have hc1 : w1.cell? ⟨w.heap.size + 1, 0, none⟩ = some (.bool false) := hc0.1
  have hf1 : w1.frozen? ⟨w.heap.size + 1, 0, none⟩ = false := hc0.2
  clear hA kw hT hT1 hr hbg hc0 kc hw1
  refine callsIn_of_wp_marks Try.func31 rfl trivial ?_ rfl
  simp only [Try.ntmps31, List.size_toArray, List.length_cons, List.length_nil, Nat.reduceAdd, Nat.reduceSub, Array.replicate_succ, Array.replicate_zero, List.push_toArray, List.append_toArray, List.nil_append, List.cons_append]
  gi_wp2
  refine ⟨trivial, ?_⟩
  rw [HW1.out]
  refine (callsIn_wide.2 KW.out).mono ?_
  rintro e w' ⟨rfl, hw⟩
  have hw : w' = wf3 w1 p s (some ⟨bg, og, none⟩) 1 c m := hw
  rw [hw]
  clear hw
  dsimp only
  gi_wp2
  have hB3 := wf3_below w1 p s (some ⟨bg, og, none⟩) 1 c m
  have hs3 := wf3_size w1 p s (some ⟨bg, og, none⟩) 1 c m
  have hBw : Below w.heap.size w (wf3 w1 p s (some ⟨bg, og, none⟩) 1 c m) := hB0.trans (hB3.mono (by omega))
  have hc3 : (wf3 w1 p s (some ⟨bg, og, none⟩) 1 c m).cell? ⟨w.heap.size + 1, 0, none⟩ = some (.bool false) := (hB3.cell (World.block_lt_of_cell? w1 _ hc1)).trans hc1
  have hf3 : (wf3 w1 p s (some ⟨bg, og, none⟩) 1 c m).frozen? ⟨w.heap.size + 1, 0, none⟩ = false := (World.frozen?_of_block (hB3.block _ (World.block_lt_of_cell? w1 _ hc1))).trans hf1
  have hit := it62 (w1.heap.size + 3) (fun _ => False) (w1.heap.size + 2) w1.heap.size (w1.heap.size + 1) p gHo gQ nG s (edge ho s) _ hnG (by rw [hs3]; exact Nat.le_refl _) HA.out
  generalize wf3 w1 p s (some ⟨bg, og, none⟩) 1 c m = w3 at *
  refine wpIn_rangeFunc_ownF rfl (by decide) (gf := 62) (lb := #[.pointer (some ⟨w1.heap.size + 2, 0, none⟩), .pointer (some ⟨w1.heap.size, 0, none⟩), .pointer (some ⟨w1.heap.size + 1, 0, none⟩)]) rfl trivial (enters_of Try.func62 (by kernel_rfl) rfl)
    hit kpS_t (kpS_b (by omega)) (Below.refl _ _) (fun _ => rfl)
    (fun pre W => (pre = [] ∧ W.cell? ⟨w.heap.size + 1, 0, none⟩ = some (.bool false) ∧ W.frozen? ⟨w.heap.size + 1, 0, none⟩ = false) ∧ Below w.heap.size w W)
    (fun cd pre W => (cd = .ret ∧ W.cell? ⟨w.heap.size + 1, 0, none⟩ = some (.bool true)) ∧ Below w.heap.size w W)
    (OwnFrom.and (Own.from (fun s A B row hs hg hr => ⟨hs.1, cell_kept hs.2.1 hg hr, (frozen_kept hs.2.1 hg hr).trans hs.2.2⟩) _) (ownFrom_below (Nat.le_refl _) (by omega)))
    (fun cd => OwnFrom.and (Own.from (fun s A B row hs hg hr => ⟨hs.1, cell_kept hs.2 hg hr⟩) _) (ownFrom_below (Nat.le_refl _) (by omega)))
    ⟨⟨rfl, hc3, hf3⟩, hBw⟩
    (fun x => { tmps := #[.pointer (some ⟨p, 0, none⟩), .int .i64 s, .agg #[.slice (some ⟨bg, og, none⟩) 1 c, .int .u8 m], undef, undef, .pointer (some ⟨w.heap.size, 0, none⟩), .pointer (some ⟨w.heap.size + 1, 0, none⟩), .pointer (some ⟨p, 0, none⟩), .int .i64 s, .agg #[.slice (some ⟨bg, og, none⟩) 1 c, .int .u8 m], .func (.func 62) #[] #[.pointer (some ⟨w1.heap.size + 2, 0, none⟩), .pointer (some ⟨w1.heap.size, 0, none⟩), .pointer (some ⟨w1.heap.size + 1, 0, none⟩)], .int .i64 x], defers := [] }) ?assign ?body ?done ?stop
  case assign =>
    intro l x W K hK
    gi_wp2
    simpa using hK
  case body =>
    rintro l pre x W ⟨⟨rfl, hcr, hfr⟩, hB⟩ _
    gi_wp2
    exact ⟨KeepsOthers.setCell _ _ _, ⟨rfl, World.cell?_setCell_same' _ _ _ (by rw [hcr]; rfl)⟩, hB.setCell (p := ⟨w.heap.size + 1, 0, none⟩) (by simp) _⟩
  case done =>
    rintro D ys W hD rfl ⟨⟨he, hcr, hfr⟩, hB⟩ hK
    gi_wp2
    have hK' := (KeepsOthers.setCell W ⟨w.heap.size + 1, 0, none⟩ (.bool false)).same D _ hK rfl
    refine ⟨by simp, .inl ⟨_, _, rfl, run_takeDeferred hK', ?_⟩⟩
    have hc5 := cell_kept (World.cell?_setCell_same' W ⟨w.heap.size + 1, 0, none⟩ (.bool false) (by rw [hcr]; rfl)) (grownBy_putObj' _ D (.deferred none)) (fun r e => by cases e; exact ⟨_, hK', rfl⟩)
    refine ⟨.bool false, ?_, by rw [he]; rfl, (hB.setCell (p := ⟨w.heap.size + 1, 0, none⟩) (by simp) _).trans (belowK_b (w := w) (Nat.le_refl _) _ D _ _ (by omega) hK' rfl rfl)⟩
    simp [results, Try.f31, go_sem, hc5]
  case stop =>
    rintro D cd pre W hD ⟨rfl, hne⟩ ⟨⟨rfl, hcr⟩, hB⟩ hK
    gi_wp2
    refine ⟨by simp, .inl ⟨_, _, rfl, run_takeDeferred hK, ?_⟩⟩
    have hc5 := cell_kept hcr (grownBy_putObj' _ D (.deferred none)) (fun r e => by cases e; exact ⟨_, hK, rfl⟩)
    refine ⟨.bool true, ?_, ?_, hB.trans (belowK_b (w := w) (Nat.le_refl _) W D _ _ (by omega) hK rfl rfl)⟩
    · simp [results, Try.f31, go_sem, hc5]
    · cases h : edge ho s with
      | nil => exact absurd h hne
      | cons _ _ => rfl
end Go.Proofs.Qxb6616109a
