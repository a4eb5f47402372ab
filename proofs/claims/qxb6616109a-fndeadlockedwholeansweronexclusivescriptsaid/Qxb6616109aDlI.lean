import Derived.Test.Qxb6616109aDlH
import Derived.Test.Qxb6616109aCut
import Derived.Deep.RegionHeld3
namespace Go.Proofs.Qxb6616109a
open Go.RowKit Go.Deep Go.Joins
set_option linter.unusedSimpArgs false
set_option linter.unusedVariables false

variable {w w1 : World} {B : Bk} {N nT nG : Nat} {lim : Nat → Nat} {V : Nat → Nat → Value} {X : Nat → Nat → List Value} {md : Nat → Int}

/-- What the walk wants behind the first append of grant. -/
theorem grant_key0 {w2 w3 : World} {g t bx : Nat} {A : Option Addr} {c g' cap : Nat} (h : Lk w2 B N nT nG lim V X md) (hl : lim 0 = nG) (hg : g < nG) (hv : V 0 g = .slice A 0 c) (hbx : w2.cell? ⟨bx, 0, none⟩ = some (.int .i64 t)) (hfar : ∀ b, (V 0 g).ownBlock = some b → b < bx) (hbN : N ≤ bx)
    (h1 : w3.ownsRow N 60 2 (.slice (some ⟨g', 0, none⟩) (0 + 1) cap) (0 + 1) ([] ++ [.int .i64 (t : Int), .int .u8 2])) (h2 : ((w2.alloc (.cells #[.int .i64 (t : Int), .int .u8 2] 60)).drew).grownBy w3 (Value.slice A 0 c).ownBlock)
    (h3 : (Value.slice A 0 c).ownBlock = some g' ∨ ((w2.alloc (.cells #[.int .i64 (t : Int), .int .u8 2] 60)).drew).heap.size ≤ g') :
    w3.cell? ⟨B.p, 0, none⟩ = some (.slice (some ⟨B.ho, 0, none⟩) nG nG) ∧ w3.cell? ⟨B.ho, g, none⟩ = some (.slice A 0 c) ∧ w3.frozen? ⟨B.ho, g, none⟩ = false ∧
      Lk (w3.setCell ⟨B.ho, g, none⟩ (.slice (some ⟨g', 0, none⟩) (0 + 1) cap)) B N nT nG lim (put2 V 0 g (.slice (some ⟨g', 0, none⟩) (0 + 1) cap)) (put2 X 0 g (hc (some t))) md ∧ Fr B N w2 (w3.setCell ⟨B.ho, g, none⟩ (.slice (some ⟨g', 0, none⟩) (0 + 1) cap)) ∧
      (w3.setCell ⟨B.ho, g, none⟩ (.slice (some ⟨g', 0, none⟩) (0 + 1) cap)).cell? ⟨bx, 0, none⟩ = some (.int .i64 t) ∧ w3.heap.size = (w3.setCell ⟨B.ho, g, none⟩ (.slice (some ⟨g', 0, none⟩) (0 + 1) cap)).heap.size := by
  rw [← hv] at h2 h3
  have hT : Turn w2 w3 N V 0 g (.slice (some ⟨g', 0, none⟩) (0 + 1) cap) (hc (some t)) := by
    refine turn_app (by simpa [ety, esz, hc] using h1) h2 ?_
    intro b hb
    simp only [Value.ownBlock, Option.some.injEq] at hb
    subst hb
    exact h3
  have low := hT.low h (by omega)
  have k := lk_put0 h hg hl hT
  have hok := h.ok
  have hblt := World.block_lt_of_cell? w2 _ hbx
  refine ⟨(World.cell?_of_block (low _ hok.p.1)).trans h.still.c0, ?_, ?_, k.1, k.2, ?_, (nblk_setCell _ _ _).symm⟩
  · rw [World.cell?_of_block (w := w2) (low _ hok.ho.1), h.hos.cell hg, hv]
  · rw [World.frozen?_of_block (w := w2) (low _ hok.ho.1)]; exact h.hos.frozen g
  · have e1 : (w3.setCell ⟨B.ho, g, none⟩ (.slice (some ⟨g', 0, none⟩) (0 + 1) cap)).heap[bx]? = w3.heap[bx]? := Below.heap_setCell _ _ _ _ (by have := hok.ho.1; simp; omega)
    have e2 : w3.heap[bx]? = w2.heap[bx]? := hT.rest bx hblt (fun e => by have := hfar _ e; omega)
    rw [World.cell?_of_block (w := w2) (e1.trans e2)]
    exact hbx

theorem grant_key1 {w2 w3 : World} {g t bx : Nat} {A : Option Addr} {n c g' cap : Nat} {l : List Nat} (h : Lk w2 B N nT nG lim V X md) (hl : lim 1 = nT) (ht : t < nT) (hn : n = l.length) (hv : V 1 t = .slice A n c) (hbx : w2.cell? ⟨bx, 0, none⟩ = some (.int .i64 t)) (hfar : (V 1 t).ownBlock ≠ some bx)
    (h1 : w3.ownsRow N 3 1 (.slice (some ⟨g', 0, none⟩) (n + 1) cap) (n + 1) (ic l ++ [.int .i64 (g : Int)])) (h2 : ((w2.alloc (.cells #[.int .i64 (g : Int)] 3)).drew).grownBy w3 (Value.slice A n c).ownBlock)
    (h3 : (Value.slice A n c).ownBlock = some g' ∨ ((w2.alloc (.cells #[.int .i64 (g : Int)] 3)).drew).heap.size ≤ g') :
    w3.cell? ⟨B.p, 2, none⟩ = some (.slice (some ⟨B.hd, 0, none⟩) nT nT) ∧ w3.cell? ⟨B.hd, t, none⟩ = some (.slice A n c) ∧ w3.frozen? ⟨B.hd, t, none⟩ = false ∧ w3.cell? ⟨bx, 0, none⟩ = some (.int .i64 t) ∧
      Lk (w3.setCell ⟨B.hd, t, none⟩ (.slice (some ⟨g', 0, none⟩) (n + 1) cap)) B N nT nG lim (put2 V 1 t (.slice (some ⟨g', 0, none⟩) (n + 1) cap)) (put2 X 1 t (ic (l ++ [g]))) md ∧ Fr B N w2 (w3.setCell ⟨B.hd, t, none⟩ (.slice (some ⟨g', 0, none⟩) (n + 1) cap)) := by
  subst hn
  rw [← hv] at h2 h3
  have hT : Turn w2 w3 N V 1 t (.slice (some ⟨g', 0, none⟩) (l.length + 1) cap) (ic (l ++ [g])) := by
    refine turn_app (by simpa [ety, esz, ic] using h1) h2 ?_
    intro b hb
    simp only [Value.ownBlock, Option.some.injEq] at hb
    subst hb
    exact h3
  have low := hT.low h (by omega)
  have k := lk_put1 h ht hl hT
  have hok := h.ok
  refine ⟨(World.cell?_of_block (low _ hok.p.1)).trans h.still.c2, ?_, ?_, ?_, k.1, k.2⟩
  · rw [World.cell?_of_block (w := w2) (low _ hok.hd.1), h.hds.cell ht, hv]
  · rw [World.frozen?_of_block (w := w2) (low _ hok.hd.1)]; exact h.hds.frozen t
  · rw [World.cell?_of_block (w := w2) (hT.rest bx (World.block_lt_of_cell? w2 _ hbx) hfar)]; exact hbx

theorem Lk.lrow (h : Lk w B N nT nG lim V X md) {k i : Nat} (hk : k ≠ 0) (hi : i < lim k) {l : List Nat} (hx : X k i = ic l) : ∃ A c, V k i = .slice A l.length c ∧ w.ownsRow N 3 1 (.slice A l.length c) l.length (ic l) := by
  have hr := h.fam.row k i hi
  simp only [ety, esz, if_neg hk, hx, Nat.div_one] at hr
  have e : (ic l).length = l.length := by simp [ic]
  rw [e] at hr
  rcases ownsRow_forms hr with ⟨ev, h0⟩ | ⟨g0, cap0, ev⟩
  · exact ⟨none, 0, by rw [ev, h0], by rw [ev, h0] at hr; rw [h0]; exact hr⟩
  · exact ⟨_, cap0, ev, by rw [ev] at hr; exact hr⟩

set_option maxHeartbeats 2000000 in
set_option maxRecDepth 100000 in
theorem grantB (t g bx : Nat) (l : List Nat) (w4 : World) (j4 : Lk w4 B N nT nG lim V X md) (hl1 : lim 1 = nT) (ht : t < nT) (hx1 : X 1 t = ic l) (hll : l.length ≤ 65536) (j6 : w4.cell? ⟨bx, 0, none⟩ = some (.int .i64 t)) (hfar : (V 1 t).ownBlock ≠ some bx) (hbN : N ≤ bx) (R : Ending → World → Prop)
    (hR : ∀ w', (∃ V', Lk w' B N nT nG lim V' (put2 X 1 t (ic (l ++ [g]))) md) → Fr B N w4 w' → R (.returned (.tuple #[])) w')
    {u4 u6 u7 u8 u9 u10 u11 u12 u13 u14 u15 u16 u17 u18 u19 u20 u21 u22 u23 u24 u25 u26 u27 u28 u29 u30 u31 u32 u33 u34 u35 u36 u37 u38 u39 u40 u41 u42 u43 u44 u45 u46 u47 u48 u49 u50 u51 u52 u53 u54 u55 u56 u57 u58 u59 u60 : Value} :
    Code.wp Try.prog (dropAt 4 (Try.f53.body.getD .skip)) (bodyPost Try.prog Try.f53 R) ⟨#[.pointer (some ⟨B.p, 0, none⟩), .int .i64 t, .int .i64 g, .int .u8 2, u4, .pointer (some ⟨bx, 0, none⟩), u6, u7, u8, u9, u10, u11, u12, u13, u14, u15, u16, u17, u18, u19, u20, u21, u22, u23, u24, u25, u26, u27, u28, u29, u30, u31, u32, u33, u34, u35, u36, u37, u38, u39, u40, u41, u42, u43, u44, u45, u46, u47, u48, u49, u50, u51, u52, u53, u54, u55, u56, u57, u58, u59, u60], []⟩ w4 := by
  conv => arg 2; simp only [Try.f53, Option.getD_some, cutAt, dropAt]
  obtain ⟨i3, hi3, hy0, hy1, hy2⟩ := info_parts info3
  obtain ⟨A1, c1, hv1, hr1⟩ := j4.lrow (k := 1) (i := t) (l := l) (by decide) (by rw [hl1]; exact ht) hx1
  have d2 := j4.still.c2
  have drow : w4.cell? ⟨B.hd, t, none⟩ = some (.slice A1 l.length c1) := by rw [j4.hds.cell ht, hv1]
  have hown : ((w4.alloc (.cells #[.int .i64 (g : Int)] 3)).drew).ownsRow N 3 1 (.slice A1 l.length c1) l.length (ic l) := hr1.alloc _
  have hnews : ∀ j u, ([.int .i64 (g : Int)] : List Value)[j]? = some u → ((w4.alloc (.cells #[.int .i64 (g : Int)] 3)).drew).cell? (Addr.add ⟨w4.heap.size, 0, none⟩ j) = some u := by
    intro j u hj
    match j, hj with
    | 0, hj => simp at hj; subst hj; exact cell_newest w4 _ _ 0
    | j + 1, hj => simp at hj
  have hone : ∀ u ∈ ([.int .i64 (g : Int)] : List Value), u.oneCell' = true := by intro u hu; simp at hu; subst hu; rfl
  have hlo : N ≤ ((w4.alloc (.cells #[.int .i64 (g : Int)] 3)).drew).heap.size := by have := j4.size; simp; omega
  have key1 := fun g2 cap2 w5 => grant_key1 (g := g) (w3 := w5) (g' := g2) (cap := cap2) j4 hl1 ht rfl hv1 j6 hfar
  have hps : B.p < w4.heap.size := World.block_lt_of_cell? w4 _ d2
  have hbx : bx < w4.heap.size := World.block_lt_of_cell? w4 _ j6
  have hbh : B.hd < w4.heap.size := World.block_lt_of_cell? w4 _ drow
  have hne1 : ¬ B.p = B.hd := j4.ok.p.2.2.1
  have hne2 : ¬ B.hd = B.p := fun e => j4.ok.p.2.2.1 e.symm
  have hne3 : ¬ bx = B.hd := by have := j4.ok.hd.1; omega
  have hne4 : ¬ B.hd = bx := by have := j4.ok.hd.1; omega
  have HR : Hid (∀ w', (∃ V', Lk w' B N nT nG lim V' (put2 X 1 t (ic (l ++ [g]))) md) → Fr B N w4 w' → R (.returned (.tuple #[])) w') := hR
  clear j4 hr1 hv1 hR hl1 hx1 hfar
  refine wp_region_held_drew (S := (fun w' => w'.cell? ⟨B.p, 2, none⟩ = some (.slice (some ⟨B.hd, 0, none⟩) nT nT) ∧ w'.cell? ⟨bx, 0, none⟩ = some (.int .i64 t))) (by kernel_rfl) ?_ (fun hHeld => ?_)
  · ((try dsimp only); go_keep)
  refine wpAnyH_take (i := 0) (oi := _) (v := ?_) rfl (by kernel_rfl) (by kernel_rfl) (by kernel_rfl) (fun _ _ _ h => h) (Or.inl ⟨by rfl, ?_⟩) (by assumption) ?_
  rotate_left 1
  · (intro w hSw; (try dsimp only at hSw); go_simp; try with_reducible rfl)
  try simp only [Act.put, List.setIfInBounds_toArray, List.set_cons_zero, List.set_cons_succ]
  refine wpAnyH_take (i := 1) (oi := _) (v := ?_) rfl (by kernel_rfl) (by kernel_rfl) (by kernel_rfl) (fun _ _ _ h => h) (Or.inl ⟨by rfl, ?_⟩) (by assumption) ?_
  rotate_left 1
  · (intro w hSw; (try dsimp only at hSw); go_simp; try with_reducible rfl)
  try simp only [Act.put, List.setIfInBounds_toArray, List.set_cons_zero, List.set_cons_succ]
  refine wpAnyH_take (i := 2) (oi := _) (v := ?_) rfl (by kernel_rfl) (by kernel_rfl) (by kernel_rfl) (fun _ _ _ h => h) (Or.inl ⟨by rfl, ?_⟩) (by assumption) ?_
  rotate_left 1
  · (intro w hSw; (try dsimp only at hSw); go_simp; try with_reducible rfl)
  try simp only [Act.put, List.setIfInBounds_toArray, List.set_cons_zero, List.set_cons_succ]
  refine wpAnyH_take (i := 3) (oi := _) (v := ?_) rfl (by kernel_rfl) (by kernel_rfl) (by kernel_rfl) (fun _ _ _ h => h) (Or.inl ⟨by rfl, ?_⟩) (by assumption) ?_
  rotate_left 1
  · (intro w hSw; (try dsimp only at hSw); go_simp; try with_reducible rfl)
  try simp only [Act.put, List.setIfInBounds_toArray, List.set_cons_zero, List.set_cons_succ]
  refine wpAnyH_take (i := 4) (oi := _) (v := ?_) rfl (by kernel_rfl) (by kernel_rfl) (by kernel_rfl) (fun _ _ _ h => h) (Or.inl ⟨by rfl, ?_⟩) (by assumption) ?_
  rotate_left 1
  · (intro w hSw; (try dsimp only at hSw); go_simp; try with_reducible rfl)
  try simp only [Act.put, List.setIfInBounds_toArray, List.set_cons_zero, List.set_cons_succ]
  refine wpAnyH_take (i := 5) (oi := _) (v := ?_) rfl (by kernel_rfl) (by kernel_rfl) (by kernel_rfl) (fun _ _ _ h => h) (Or.inl ⟨by rfl, ?_⟩) (by assumption) ?_
  rotate_left 1
  · (intro w hSw; (try dsimp only at hSw); go_simp; try with_reducible rfl)
  try simp only [Act.put, List.setIfInBounds_toArray, List.set_cons_zero, List.set_cons_succ]
  refine wpAnyH_take (i := 6) (oi := _) (v := ?_) rfl (by kernel_rfl) (by kernel_rfl) (by kernel_rfl) (fun _ _ _ h => h) (Or.inl ⟨by rfl, ?_⟩) (by assumption) ?_
  rotate_left 1
  · (intro w hSw; (try dsimp only at hSw); go_simp; try with_reducible rfl)
  try simp only [Act.put, List.setIfInBounds_toArray, List.set_cons_zero, List.set_cons_succ]
  refine wpAnyH_take (i := 7) (oi := _) (v := ?_) rfl (by kernel_rfl) (by kernel_rfl) (by kernel_rfl) (fun _ _ _ h => h) (Or.inl ⟨by rfl, ?_⟩) (by assumption) ?_
  rotate_left 1
  · (intro w hSw; (try dsimp only at hSw); go_simp; try with_reducible rfl)
  try simp only [Act.put, List.setIfInBounds_toArray, List.set_cons_zero, List.set_cons_succ]
  refine wpAnyH_take (i := 8) (oi := _) (v := ?_) rfl (by kernel_rfl) (by kernel_rfl) (by kernel_rfl) (fun _ _ _ h => h) (Or.inl ⟨by rfl, ?_⟩) (by assumption) ?_
  rotate_left 1
  · (intro w hSw; (try dsimp only at hSw); go_simp; try with_reducible rfl)
  try simp only [Act.put, List.setIfInBounds_toArray, List.set_cons_zero, List.set_cons_succ]
  refine wpAnyH_take (i := 9) (oi := _) (v := ?_) rfl (by kernel_rfl) (by kernel_rfl) (by kernel_rfl) (fun _ _ _ h => h) (Or.inl ⟨by rfl, ?_⟩) (by assumption) ?_
  rotate_left 1
  · (intro w hSw; (try dsimp only at hSw); go_simp; try with_reducible rfl)
  try simp only [Act.put, List.setIfInBounds_toArray, List.set_cons_zero, List.set_cons_succ]
  refine wpAnyH_take (i := 10) (oi := _) (v := ?_) rfl (by kernel_rfl) (by kernel_rfl) (by kernel_rfl) (fun _ _ _ h => h) (Or.inl ⟨by rfl, ?_⟩) (by assumption) ?_
  rotate_left 1
  · (intro w hSw; (try dsimp only at hSw); go_simp; try with_reducible rfl)
  try simp only [Act.put, List.setIfInBounds_toArray, List.set_cons_zero, List.set_cons_succ]
  refine wpAnyH_take (i := 12) (oi := _) (v := ?_) rfl (by kernel_rfl) (by kernel_rfl) (by kernel_rfl) (fun _ _ _ h => h) (Or.inl ⟨by rfl, ?_⟩) (by assumption) ?_
  rotate_left 1
  · (intro w hSw; (try dsimp only at hSw); go_simp; try with_reducible rfl)
  try simp only [Act.put, List.setIfInBounds_toArray, List.set_cons_zero, List.set_cons_succ]
  refine wpAnyH_ready (rs := [11, 13]) (by kernel_rfl) (by simp) ?_
  refine AllReadyH.cons (o := _) rfl (fun K hK => ?_) (AllReadyH.cons (o := _) rfl (fun K hK => ?_) AllReadyH.nil)
  · go_simp
    refine hK.out _ _ ?_ (fun hHeld2 => ?_)
    · ((try dsimp only); go_keep)
    clear hK K
    try simp only [Act.put, List.setIfInBounds_toArray, List.set_cons_zero, List.set_cons_succ]
    clear hHeld
    have hHeld := hHeld2
    clear hHeld2
    refine wpAnyH_ready (rs := [13]) (by kernel_rfl) (by simp) ?_
    refine AllReadyH.cons (o := _) rfl (fun K hK => ?_) AllReadyH.nil
    go_simp
    refine hK.out _ _ ?_ (fun hHeld2 => ?_)
    · ((try dsimp only); go_keep)
    clear hK K
    try simp only [Act.put, List.setIfInBounds_toArray, List.set_cons_zero, List.set_cons_succ]
    clear hHeld
    have hHeld := hHeld2
    clear hHeld2
    refine wpAnyH_ready (rs := [14]) (by kernel_rfl) (by simp) ?_
    refine AllReadyH.cons (o := _) rfl (fun K hK => ?_) AllReadyH.nil
    (refine step_append_row rfl (.tmp 56) (.tmp 58) 25 rfl N 3 i3 (.int .i64 0) 1 8 Try.underlying25 hi3 hy0 hy1 hy2 rfl (by decide) (.slice A1 l.length c1) l.length (ic l) (by simp [Act.eval]) hown ⟨w4.heap.size, 0, none⟩ 1 [.int .i64 (g : Int)] (by simp [Act.eval]) rfl hnews hone (by unfold maxLen; omega) (by omega) hlo ?_; intro g2 cap2 w5 ho1 hg1 hf1; obtain ⟨j1, j2, j3, j3', j4, j5⟩ := key1 g2 cap2 w5 ho1 hg1 hf1; clear ho1 hg1 hf1 key1)
    refine hK.out _ _ ?_ (fun hHeld2 => ?_)
    · ((try dsimp only); go_keep)
    clear hK K
    try simp only [Act.put, List.setIfInBounds_toArray, List.set_cons_zero, List.set_cons_succ]
    clear hHeld
    have hHeld := hHeld2
    clear hHeld2
    refine wpAnyH_take (i := 15) (oi := _) (v := ?_) rfl (by kernel_rfl) (by kernel_rfl) (by kernel_rfl) (fun _ _ _ h => h) (Or.inl ⟨by rfl, ?_⟩) (by assumption) ?_
    rotate_left 1
    · (intro w hSw; (try dsimp only at hSw); go_simp; try with_reducible rfl)
    try simp only [Act.put, List.setIfInBounds_toArray, List.set_cons_zero, List.set_cons_succ]
    refine wpAnyH_ready (rs := [16]) (by kernel_rfl) (by simp) ?_
    refine AllReadyH.cons (o := _) rfl (fun K hK => ?_) AllReadyH.nil
    go_simp
    refine hK.out _ _ ?_ (fun hHeld2 => ?_)
    · ((try dsimp only); go_keep)
    clear hK K
    try simp only [Act.put, List.setIfInBounds_toArray, List.set_cons_zero, List.set_cons_succ]
    clear hHeld
    have hHeld := hHeld2
    clear hHeld2
    refine wpAnyH_done (by kernel_rfl) ?_ _
    go_wp2
    go_end0
    exact HR.out _ ⟨_, j4⟩ j5
  · go_simp
    refine hK.out _ _ ?_ (fun hHeld2 => ?_)
    · ((try dsimp only); go_keep)
    clear hK K
    try simp only [Act.put, List.setIfInBounds_toArray, List.set_cons_zero, List.set_cons_succ]
    clear hHeld
    have hHeld := hHeld2
    clear hHeld2
    refine wpAnyH_ready (rs := [11]) (by kernel_rfl) (by simp) ?_
    refine AllReadyH.cons (o := _) rfl (fun K hK => ?_) AllReadyH.nil
    go_simp
    refine hK.out _ _ ?_ (fun hHeld2 => ?_)
    · ((try dsimp only); go_keep)
    clear hK K
    try simp only [Act.put, List.setIfInBounds_toArray, List.set_cons_zero, List.set_cons_succ]
    clear hHeld
    have hHeld := hHeld2
    clear hHeld2
    refine wpAnyH_ready (rs := [14]) (by kernel_rfl) (by simp) ?_
    refine AllReadyH.cons (o := _) rfl (fun K hK => ?_) AllReadyH.nil
    (refine step_append_row rfl (.tmp 56) (.tmp 58) 25 rfl N 3 i3 (.int .i64 0) 1 8 Try.underlying25 hi3 hy0 hy1 hy2 rfl (by decide) (.slice A1 l.length c1) l.length (ic l) (by simp [Act.eval]) hown ⟨w4.heap.size, 0, none⟩ 1 [.int .i64 (g : Int)] (by simp [Act.eval]) rfl hnews hone (by unfold maxLen; omega) (by omega) hlo ?_; intro g2 cap2 w5 ho1 hg1 hf1; obtain ⟨j1, j2, j3, j3', j4, j5⟩ := key1 g2 cap2 w5 ho1 hg1 hf1; clear ho1 hg1 hf1 key1)
    refine hK.out _ _ ?_ (fun hHeld2 => ?_)
    · ((try dsimp only); go_keep)
    clear hK K
    try simp only [Act.put, List.setIfInBounds_toArray, List.set_cons_zero, List.set_cons_succ]
    clear hHeld
    have hHeld := hHeld2
    clear hHeld2
    refine wpAnyH_take (i := 15) (oi := _) (v := ?_) rfl (by kernel_rfl) (by kernel_rfl) (by kernel_rfl) (fun _ _ _ h => h) (Or.inl ⟨by rfl, ?_⟩) (by assumption) ?_
    rotate_left 1
    · (intro w hSw; (try dsimp only at hSw); go_simp; try with_reducible rfl)
    try simp only [Act.put, List.setIfInBounds_toArray, List.set_cons_zero, List.set_cons_succ]
    refine wpAnyH_ready (rs := [16]) (by kernel_rfl) (by simp) ?_
    refine AllReadyH.cons (o := _) rfl (fun K hK => ?_) AllReadyH.nil
    go_simp
    refine hK.out _ _ ?_ (fun hHeld2 => ?_)
    · ((try dsimp only); go_keep)
    clear hK K
    try simp only [Act.put, List.setIfInBounds_toArray, List.set_cons_zero, List.set_cons_succ]
    clear hHeld
    have hHeld := hHeld2
    clear hHeld2
    refine wpAnyH_done (by kernel_rfl) ?_ _
    go_wp2
    go_end0
    exact HR.out _ ⟨_, j4⟩ j5

theorem split53 : Try.f53.body.getD .skip = cutAt 4 (Try.f53.body.getD .skip) (dropAt 4 (Try.f53.body.getD .skip)) := by kernel_rfl

set_option maxHeartbeats 2000000 in
set_option maxRecDepth 100000 in
theorem grant53 (t g : Nat) (l : List Nat) (w : World) (h : Lk w B N nT nG lim V X md) (hl0 : lim 0 = nG) (hl1 : lim 1 = nT) (ht : t < nT) (hg : g < nG) (hx0 : X 0 g = hc none) (hx1 : X 1 t = ic l) (hll : l.length ≤ 65536) (hnT : nT ≤ 4096) (hnG : nG ≤ 65536) :
    Calls Try.prog 53 #[.pointer (some ⟨B.p, 0, none⟩), .int .i64 t, .int .i64 g, .int .u8 2] w fun e w' => e = .returned (.tuple #[]) ∧ (∃ V', Lk w' B N nT nG lim V' (put2 (put2 X 0 g (hc (some t))) 1 t (ic (l ++ [g]))) md) ∧ Fr B N w w' := by
  obtain ⟨i60, hi60, hz0, hz1, hz2⟩ := info_parts info60
  obtain ⟨A, l0, c, hv0, hr0, hl00⟩ := h.hrow hl0 hg hx0
  have hl01 : l0 = 0 := by rw [hl00, hx0]; rfl
  clear hl00
  subst hl01
  have hB1 : Below w.heap.size w (w.alloc (.cells #[.int .i64 (t : Int)] 3)) := (Below.refl _ _).alloc (Nat.le_refl _) _
  have hcx : (w.alloc (.cells #[.int .i64 (t : Int)] 3)).cell? ⟨w.heap.size, 0, none⟩ = some (.int .i64 t) := cell_newest w _ _ 0
  have kix := index36_64 A 0 c none t w.heap.size _ (hr0.later hB1) hcx
  have hK1 := h.later hB1
  have c0 := h.still.c0
  have hrg : w.cell? ⟨B.ho, g, none⟩ = some (.slice A 0 c) := by rw [h.hos.cell hg, hv0]
  have e0 : atOf none t = -1 := rfl
  rw [e0] at kix
  have hN := h.size
  have hfar : ∀ b, (V 0 g).ownBlock = some b → b < w.heap.size := fun b hb => (h.fam.blk (by omega) hb).2
  have hlt1 := World.block_lt_of_cell? w _ c0
  have hlt2 := World.block_lt_of_cell? w _ hrg
  have key : ∀ w2, Below (w.heap.size + 1) (w.alloc (.cells #[.int .i64 (t : Int)] 3)) w2 → Lk w2 B N nT nG lim V X md ∧ Fr B N w w2 ∧ w2.cell? ⟨w.heap.size, 0, none⟩ = some (.int .i64 t) := by
    intro w2 hb
    exact ⟨hK1.later (hb.mono (by simp)), (Fr.of_below hB1 hN).trans (Fr.of_below hb (by omega)), (hb.cell (by simp)).trans hcx⟩
  have HKEY : Hid (∀ w2, Below (w.heap.size + 1) (w.alloc (.cells #[.int .i64 (t : Int)] 3)) w2 → Lk w2 B N nT nG lim V X md ∧ Fr B N w w2 ∧ w2.cell? ⟨w.heap.size, 0, none⟩ = some (.int .i64 t)) := key
  have HF : Hid (∀ b, (V 0 g).ownBlock = some b → b < w.heap.size) := hfar
  have hfar1 : ∀ b, (V 1 t).ownBlock = some b → b < w.heap.size := fun b hb => (h.fam.blk (by omega) hb).2
  have HF1 : Hid (∀ b, (V 1 t).ownBlock = some b → b < w.heap.size) := hfar1
  clear hfar1
  have HX0 : Hid (X 0 g = hc none) := hx0
  have HX1 : Hid (X 1 t = ic l) := hx1
  have HV0 : Hid (V 0 g = .slice A 0 c) := hv0
  clear h hK1 hB1 hcx hr0 key hfar e0 hx0 hx1 hv0
  dsimp only at hlt1 hlt2
  have hsz1 : (w.alloc (.cells #[.int .i64 (t : Int)] 3)).heap.size = w.heap.size + 1 := by simp
  rw [hsz1] at kix
  have HKX : Hid (Calls Try.prog 36 #[.slice A 0 c, .func (.func 64) #[] #[.pointer (some ⟨w.heap.size, 0, none⟩)]] (w.alloc (.cells #[.int .i64 (t : Int)] 3)) fun e w' => e = .returned (.int .i64 (-1)) ∧ Below (w.heap.size + 1) (w.alloc (.cells #[.int .i64 (t : Int)] 3)) w') := kix
  have HL0 : Hid (lim 0 = nG) := hl0
  have HL1 : Hid (lim 1 = nT) := hl1
  clear hsz1 kix hl0 hl1
  go_enter Try.func53, Try.ntmps53
  show Code.wp Try.prog (Try.f53.body.getD .skip) _ _ _
  rw [split53]
  obtain ⟨C, hC⟩ : ∃ C, dropAt 4 (Try.f53.body.getD .skip) = C := ⟨_, rfl⟩
  rw [hC]
  have HC : Hid (dropAt 4 (Try.f53.body.getD .skip) = C) := hC
  clear hC
  conv => arg 2; simp only [Try.f53, Option.getD_some, cutAt, dropAt]
  go_wp2_with (go_at_call 36; refine HKX.out.mono ?_; rintro e w2 ⟨rfl, hB2⟩)
  obtain ⟨k2, f2, hb2⟩ := HKEY.out _ hB2
  have d0 := k2.still.c0
  have hown : ((w2.alloc (.cells #[.int .i64 (t : Int), .int .u8 2] 60)).drew).ownsRow N 60 2 (.slice A 0 c) 0 [] := by
    have := (k2.fam.row 0 g (by rw [HL0.out]; exact hg)).alloc (.cells #[.int .i64 (t : Int), .int .u8 2] 60)
    rw [HX0.out, HV0.out] at this
    have this2 : (w2.alloc (.cells #[.int .i64 (t : Int), .int .u8 2] 60)).ownsRow N 60 2 (.slice A 0 c) 0 [] := by simpa [ety, esz, hc] using this
    exact this2
  have hnews : ∀ j u, ([.int .i64 (t : Int), .int .u8 2] : List Value)[j]? = some u → ((w2.alloc (.cells #[.int .i64 (t : Int), .int .u8 2] 60)).drew).cell? (Addr.add ⟨w2.heap.size, 0, none⟩ j) = some u := by
    intro j u hj
    match j, hj with
    | 0, hj => simp at hj; subst hj; exact cell_newest w2 _ _ 0
    | 1, hj => simp at hj; subst hj; exact cell_newest w2 _ _ 1
    | j + 2, hj => simp at hj
  have hone : ∀ u ∈ ([.int .i64 (t : Int), .int .u8 2] : List Value), u.oneCell' = true := by intro u hu; simp at hu; rcases hu with rfl | rfl <;> rfl
  have hlo : N ≤ ((w2.alloc (.cells #[.int .i64 (t : Int), .int .u8 2] 60)).drew).heap.size := by have := k2.size; simp; omega
  have key0 := fun g' cap w3 => @grant_key0 B N nT nG lim V X md w2 w3 g t w.heap.size A c g' cap k2 HL0.out hg HV0.out hb2 HF.out hN
  have hps : B.p < w2.heap.size := World.block_lt_of_cell? w2 _ d0
  have HK2 : Hid (Lk w2 B N nT nG lim V X md) := k2
  clear k2 HKX HKEY hrg c0
  go_wp2_with fail
  go_region_law (refine step_append_row rfl (.tmp 38) (.tmp 42) 57 rfl N 60 i60 (.agg #[.int .i64 0, .int .u8 0]) 2 16 Try.underlying57 hi60 hz0 hz1 hz2 rfl (by decide) (.slice A 0 c) 0 [] (by simp [Act.eval]) hown ⟨w2.heap.size, 0, none⟩ 1 [.int .i64 (t : Int), .int .u8 2] (by simp [Act.eval]) rfl hnews hone (by unfold maxLen; omega) (by omega) hlo ?_; intro g' cap w3 ho1 hg1 hf1; obtain ⟨j1, j2, j3, j4, j5, j6, j7⟩ := key0 g' cap w3 ho1 hg1 hf1; clear ho1 hg1 hf1 key0; simp only [Nat.zero_add] at j4 j5 j6 j7)
  all_goals (
    clear j1 j2 j3 j7 d0 hps hown hnews hone hlo
    obtain ⟨w4, hw4⟩ : ∃ w4, w3.setCell ⟨B.ho, g, none⟩ (.slice (some ⟨g', 0, none⟩) 1 cap) = w4 := ⟨_, rfl⟩
    rw [hw4] at j4 j5 j6 ⊢
    clear hw4
    go_wp2_with fail
    rw [← HC.out]
    refine grantB t g w.heap.size l w4 j4 HL1.out ht (by rw [put2_other _ _ (by omega)]; exact HX1.out) hll j6 ?_ hN _ ?_
    · rw [put2_other _ _ (by omega)]
      intro e
      exact absurd (HF1.out _ e) (by omega)
    · intro w' hV hF
      exact ⟨rfl, hV, (f2.trans j5).trans hF⟩)
end Go.Proofs.Qxb6616109a
