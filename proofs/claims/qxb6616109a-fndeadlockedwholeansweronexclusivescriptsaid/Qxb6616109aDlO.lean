import Derived.Test.Qxb6616109aDlN
import Derived.Deep.RegionWith
namespace Go.Proofs.Qxb6616109a
open Go.RowKit Go.Deep Go.Joins
set_option linter.unusedSimpArgs false
set_option linter.unusedVariables false

variable {w w1 : World} {B : Bk} {N nT nG : Nat} {lim : Nat → Nat} {V : Nat → Nat → Value} {X : Nat → Nat → List Value} {md : Nat → Int}

/-- The rows of the granules of M are let go. -/
def freed (X : Nat → Nat → List Value) (M : List Nat) : Nat → Nat → List Value := fun k i => if k = 0 ∧ i ∈ M then [] else X k i
def cut0 : Value → Value
  | .slice A _ c => .slice A 0 c
  | v => v
def cutV (V : Nat → Nat → Value) (M : List Nat) : Nat → Nat → Value := fun k i => if k = 0 ∧ i ∈ M then cut0 (V k i) else V k i

theorem freed_put (M : List Nat) (g : Nat) : put2 (freed X M) 0 g [] = freed X (M ++ [g]) := by
  funext k i
  unfold put2 freed
  by_cases e : k = 0 ∧ i = g
  · simp [e]
  · rw [if_neg e]
    by_cases e2 : k = 0 ∧ i ∈ M
    · rw [if_pos e2, if_pos ⟨e2.1, by simp [e2.2]⟩]
    · rw [if_neg e2, if_neg]
      rintro ⟨h1, h2⟩
      rcases List.mem_append.1 h2 with h3 | h3
      · exact e2 ⟨h1, h3⟩
      · exact e ⟨h1, by simpa using h3⟩
theorem cutV_put (M : List Nat) (g : Nat) {A : Option Addr} {l c : Nat} (hv : V 0 g = .slice A l c) : put2 (cutV V M) 0 g (.slice A 0 c) = cutV V (M ++ [g]) := by
  funext k i
  unfold put2 cutV
  by_cases e : k = 0 ∧ i = g
  · obtain ⟨rfl, rfl⟩ := e
    simp [hv, cut0]
  · rw [if_neg e]
    by_cases e2 : k = 0 ∧ i ∈ M
    · rw [if_pos e2, if_pos ⟨e2.1, by simp [e2.2]⟩]
    · rw [if_neg e2, if_neg]
      rintro ⟨h1, h2⟩
      rcases List.mem_append.1 h2 with h3 | h3
      · exact e2 ⟨h1, h3⟩
      · exact e ⟨h1, by simpa using h3⟩
theorem freed_nil : freed X [] = X := by funext k i; simp [freed]
theorem cutV_nil : cutV V [] = V := by funext k i; simp [cutV]
theorem freed_other (M : List Nat) {k i : Nat} (h : ¬ (k = 0 ∧ i ∈ M)) : freed X M k i = X k i := if_neg h
theorem cutV_other (M : List Nat) {k i : Nat} (h : ¬ (k = 0 ∧ i ∈ M)) : cutV V M k i = V k i := if_neg h

/-- The one holder is taken out of a row. -/
theorem turn_del {g t b cp : Nat} (h : Lk w B N nT nG lim V X md) (hi : g < lim 0) (hv : V 0 g = .slice (some ⟨b, 0, none⟩) 1 cp) (hx : X 0 g = hc (some t)) (hB : Below w.heap.size w w1) :
    Turn w ((w1.setCell ⟨b, 0, none⟩ (.int .i64 0)).setCell ⟨b, 1, none⟩ (.int .u8 0)) N V 0 g (.slice (some ⟨b, 0, none⟩) 0 cp) [] := by
  have hr := h.fam.row 0 g hi
  rw [hx, hv] at hr
  simp only [ety, esz, if_true] at hr
  refine ⟨hB.os, hB.tape, hB.output, by rw [nblk_setCell, nblk_setCell]; exact hB.size, ?_, ?_, ?_⟩
  · intro c hc hne
    have hcb : c ≠ b := fun e => hne (by rw [hv, e]; rfl)
    rw [Below.heap_setCell _ _ _ _ (by simpa using hcb), Below.heap_setCell _ _ _ _ (by simpa using hcb)]
    exact hB.block c hc
  · rcases hr.2 with ⟨e, _⟩ | ⟨g', cap, cur, e, h1, h2, h3, h4, h5, h6⟩
    · simp at e
    · simp only [Value.slice.injEq, Option.some.injEq, Addr.mk.injEq] at e
      obtain ⟨⟨rfl, _⟩, _, rfl⟩ := e
      have hlt : b < w.heap.size := (h.fam.blk hi (by rw [hv]; rfl)).2
      have e1 := (hB.block b hlt).trans h2
      have e2 := heap_setCell_same _ b 0 _ _ (.int .i64 0) e1
      have e3 := heap_setCell_same _ b 1 _ _ (.int .u8 0) e2
      refine ⟨by simp, .inr ⟨b, cp, _, by simp [esz], h1, e3, by simp, h4, by simpa [esz] using h5, by simp⟩⟩
  · intro c hc
    left
    rw [hv]
    exact hc

/-- Row (1, t) cut to nothing. -/
theorem cut_key1 {t : Nat} {r : List Nat} {A : Option Addr} {c d : Nat} (h : Lk w B N nT nG lim V X md) (hl : lim 1 = nT) (ht : t < nT) (hv : V 1 t = .slice A r.length c) (hr : w.ownsRow N 3 1 (.slice A r.length c) r.length (ic r)) :
    (∃ V', Lk ((w.drewN d).setCell ⟨B.hd, t, none⟩ (.slice A 0 c)) B N nT nG lim V' (put2 X 1 t (ic [])) md) ∧ Fr B N w ((w.drewN d).setCell ⟨B.hd, t, none⟩ (.slice A 0 c)) := by
  have hT : Turn w (w.drewN d) N V 1 t (.slice A 0 c) (ic []) := by
    refine ⟨rfl, rfl, rfl, Nat.le_refl _, fun _ _ _ => rfl, ?_, ?_⟩
    · have h1 := ownsRow_cut hr
      have h2 : w.ownsRow N (ety 1) (esz 1) (.slice A 0 c) ((ic []).length / esz 1) (ic []) := by simpa [ety, esz, ic] using h1
      exact h2
    · intro b hb
      left
      rw [hv]
      cases A with
      | none => simp [Value.ownBlock] at hb
      | some a => simpa [Value.ownBlock] using hb
  have k := lk_put1 h ht hl hT
  exact ⟨⟨_, k.1⟩, k.2⟩

/-- The call of DeleteFunc in a round of ReleaseAll, and what the store behind it makes. -/
theorem del_key {g t bx b cp : Nat} (h : Lk w B N nT nG lim V X md) (hl : lim 0 = nG) (hg : g < nG) (hv : V 0 g = .slice (some ⟨b, 0, none⟩) 1 cp) (hx : X 0 g = hc (some t)) (hbx : w.cell? ⟨bx, 0, none⟩ = some (.int .i64 t)) (hbb : bx ≠ b) (hbN : N ≤ bx) :
    Calls Try.prog 20 #[.slice (some ⟨b, 0, none⟩) 1 cp, .func (.func 21) #[] #[.pointer (some ⟨bx, 0, none⟩)]] w.drew fun e w' => e = .returned (.slice (some ⟨b, 0, none⟩) 0 cp) ∧
      w'.cell? ⟨B.p, 0, none⟩ = some (.slice (some ⟨B.ho, 0, none⟩) nG nG) ∧ w'.cell? ⟨B.ho, g, none⟩ = some (.slice (some ⟨b, 0, none⟩) 1 cp) ∧ w'.frozen? ⟨B.ho, g, none⟩ = false ∧
      Lk (w'.setCell ⟨B.ho, g, none⟩ (.slice (some ⟨b, 0, none⟩) 0 cp)) B N nT nG lim (put2 V 0 g (.slice (some ⟨b, 0, none⟩) 0 cp)) (put2 X 0 g []) md ∧ Fr B N w (w'.setCell ⟨B.ho, g, none⟩ (.slice (some ⟨b, 0, none⟩) 0 cp)) ∧ (w'.setCell ⟨B.ho, g, none⟩ (.slice (some ⟨b, 0, none⟩) 0 cp)).cell? ⟨bx, 0, none⟩ = some (.int .i64 t) := by
  have hi : g < lim 0 := by omega
  have hr := h.fam.row 0 g hi
  rw [hx, hv] at hr
  simp only [ety, esz, if_true] at hr
  have e2 : (hc (some t)).length / 2 = 1 := by simp [hc]
  rw [e2] at hr
  have c0 := World.ownsRow.cellAt hr 0 (by simp)
  have c1 := World.ownsRow.cellAt hr 1 (by simp)
  simp only [hc, List.getElem?_cons_zero, List.getElem?_cons_succ] at c0 c1
  rcases hr.2 with ⟨e, _⟩ | ⟨g', cap, cur, e, h1, h2, h3, h4, h5, h6⟩
  · simp at e
  simp only [Value.slice.injEq, Option.some.injEq, Addr.mk.injEq] at e
  obtain ⟨⟨rfl, _⟩, _, rfl⟩ := e
  have hf : ∀ i, w.frozen? ⟨b, i, none⟩ = false := fun i => by unfold World.frozen?; simp only [h2]; simp
  refine (del20 b cp t bx w.drew c0 c1 (hf 0) (hf 1) h3 h4 hbx hbb).mono ?_
  rintro e w' ⟨rfl, w1, hB, rfl⟩
  have hB' : Below w.heap.size w w1 := ⟨hB.os, hB.tape, hB.output, hB.size, hB.block⟩
  have hT := turn_del h hi hv hx hB'
  have low := hT.low h hi
  have k := lk_put0 h hg hl hT
  have ok := h.ok
  refine ⟨rfl, ?_, ?_, ?_, k.1, k.2, ?_⟩
  · exact (World.cell?_of_block (low _ ok.p.1)).trans h.still.c0
  · rw [World.cell?_of_block (w := w) (low _ ok.ho.1), h.hos.cell hg, hv]
  · rw [World.frozen?_of_block (w := w) (low _ ok.ho.1)]; exact h.hos.frozen g
  · have hlt : bx < w.heap.size := World.block_lt_of_cell? w _ hbx
    refine Eq.trans (World.cell?_of_block ?_) hbx
    show (World.setCell _ _ _).heap[bx]? = w.heap[bx]?
    rw [Below.heap_setCell _ _ _ _ (by have := ok.ho.1; simp; omega)]
    exact hT.rest bx hlt (by rw [hv]; simp [Value.ownBlock]; omega)

set_option maxHeartbeats 2000000 in
set_option maxRecDepth 100000 in
theorem release9 (t : Nat) (L : List Nat) (w : World) (h : Lk w B N nT nG lim V X md) (hl0 : lim 0 = nG) (hl1 : lim 1 = nT) (ht : t < nT) (hx1 : X 1 t = ic L) (hL : ∀ g ∈ L, g < nG ∧ X 0 g = hc (some t)) (hnd : L.Nodup) (hll : L.length ≤ 65536) (hnT : nT ≤ 4096) (hnG : nG ≤ 65536) :
    Calls Try.prog 9 #[.pointer (some ⟨B.p, 0, none⟩), .int .i64 t] w fun e w' => e = .returned (.tuple #[]) ∧ (∃ V', Lk w' B N nT nG lim V' (put2 (freed X L) 1 t (ic [])) md) ∧ Fr B N w w' := by
  have hB1 : Below w.heap.size w (w.alloc (.cells #[.int .i64 (t : Int)] 3)) := (Below.refl _ _).alloc (Nat.le_refl _) _
  have hb0 : (w.alloc (.cells #[.int .i64 (t : Int)] 3)).cell? ⟨w.heap.size, 0, none⟩ = some (.int .i64 t) := cell_newest w _ 3 0
  have hsN := h.size
  have hold : ∀ g, g < nG → ∀ b, (V 0 g).ownBlock = some b → w.heap.size ≠ b := fun g hg b hb => by have := (h.fam.blk (k := 0) (i := g) (by omega) hb).2; omega
  obtain ⟨A, c, hv, hr⟩ := h.lrow (k := 1) (i := t) (l := L) (by decide) (by omega) hx1
  have hF1 : Fr B N w (w.alloc (.cells #[.int .i64 (t : Int)] 3)) := Fr.of_below hB1 hsN
  have h1 := h.later hB1
  clear h
  obtain ⟨w1, hw1⟩ : ∃ w1, w.alloc (.cells #[.int .i64 (t : Int)] 3) = w1 := ⟨_, rfl⟩
  obtain ⟨bx, hbx⟩ : ∃ bx, w.heap.size = bx := ⟨_, rfl⟩
  rw [hw1] at hb0 h1 hF1
  rw [hbx] at hb0 hold
  clear hB1
  have HW1 : Hid (w.alloc (.cells #[.int .i64 (t : Int)] 3) = w1) := hw1
  clear hw1
  have c2 := h1.still.c2
  have c2t : w1.cell? ⟨B.hd, t, none⟩ = some (.slice A L.length c) := by rw [h1.hds.cell ht, hv]
  have H1 : Hid (Lk w1 B N nT nG lim V X md) := h1
  have HF1 : Hid (Fr B N w w1) := hF1
  have HR : Hid (w.ownsRow N 3 1 (.slice A L.length c) L.length (ic L)) := hr
  clear h1 hF1 hr
  go_enter Try.func9, Try.ntmps9
  go_wp2_with fail
  rw [HW1.out]
  go_quiet (fail)
  go_wp2_with fail
  go_loopw [19] (fun i wr => ∃ j, j ≤ L.length ∧ i = .int .i64 (j : Nat) ∧ Lk wr B N nT nG lim (cutV V (L.take j)) (freed X (L.take j)) md ∧ Fr B N w wr ∧ wr.cell? ⟨bx, 0, none⟩ = some (.int .i64 t)) (fun i _ => L.length - (intOf i).toNat)
  case atStart => exact ⟨0, by omega, rfl, by simpa [freed_nil, cutV_nil] using H1.out.drewN _, HF1.out.trans ⟨rfl, rfl, rfl, Nat.le_refl _, fun _ _ _ _ _ => rfl⟩, hb0⟩
  case round =>
    obtain ⟨j, hj, rfl, hk, hF, hb⟩ := hrel
    have HF : Hid (Fr B N w wr) := hF
    clear hF c2 c2t hb0
    obtain ⟨A', c', hv', hr'⟩ := hk.lrow (k := 1) (i := t) (l := L) (by decide) (by omega) (by rw [freed_other _ (by omega)]; exact hx1)
    have hvv : cutV V (L.take j) 1 t = .slice A L.length c := by rw [cutV_other _ (by omega)]; exact hv
    rw [hvv] at hv'
    obtain ⟨rfl, rfl⟩ : A = A' ∧ c = c' := by simpa using hv'
    clear hv' hvv
    by_cases hjl : j < L.length
    · obtain ⟨b0, cp0, e0⟩ := ownsRow_form hr' (by omega)
      obtain ⟨rfl, rfl⟩ : A = some ⟨b0, 0, none⟩ ∧ c = cp0 := by simpa using e0
      obtain ⟨g, hgj⟩ : ∃ g, L[j]? = some g := ⟨L[j], by simp [hjl]⟩
      have hcell : wr.cell? ⟨b0, j, none⟩ = some (.int .i64 (g : Nat)) := by
        rw [World.ownsRow.cellAt hr' j (by omega)]
        simp [ic, hgj]
      have hgL : g ∈ L := List.mem_of_getElem? hgj
      have hnot : ¬ (0 = 0 ∧ g ∈ L.take j) := by
        rintro ⟨_, hm⟩
        obtain ⟨i, hi, he⟩ := List.getElem_of_mem hm
        simp only [List.length_take] at hi
        rw [List.getElem_take] at he
        have h2 : L[j]? = some L[j] := by simp [hjl]
        rw [h2] at hgj
        have h3 : L[i] = L[j] := by rw [he]; simpa using hgj.symm
        exact List.pairwise_iff_getElem.1 hnd i j (by omega) hjl (by omega) h3
      have hg := (hL g hgL).1
      have hx0 : freed X (L.take j) 0 g = hc (some t) := by rw [freed_other _ hnot]; exact (hL g hgL).2
      obtain ⟨A2, l2, c2, hv2, hrow2, hl2⟩ := hk.hrow hl0 hg hx0
      rcases hrow2 with ⟨_, hbad⟩ | ⟨b, t', rfl, rfl, e3, e4, e5⟩
      · exact absurd hbad (by simp)
      clear e3
      have hv3 : V 0 g = .slice (some ⟨b, 0, none⟩) 1 c2 := by rw [← cutV_other (V := V) (L.take j) hnot]; exact hv2
      have hk20 := del_key (bx := bx) hk hl0 hg hv2 hx0 hb (hold g hg b (by rw [hv3]; rfl)) (by omega)
      have c0 := hk.still.c0
      have cg : wr.cell? ⟨B.ho, g, none⟩ = some (.slice (some ⟨b, 0, none⟩) 1 c2) := by rw [hk.hos.cell hg, hv2]
      rw [cutV_put (L.take j) g hv3, freed_put] at hk20
      have eT : L.take j ++ [g] = L.take (j + 1) := by rw [List.take_add_one, hgj]; rfl
      rw [eT] at hk20
      clear hk hr' e4 e5 hv2 hv3 hx0 hl2 e0 hgj hnot eT
      go_wp2_with fail
      go_region_with (go_at_call 20; refine hk20.mono ?_; rintro e w2 ⟨rfl, d1, d2, d3, d4, d5, d6⟩; dsimp only; have D4 : Hid _ := d4; have D5 : Hid _ := d5; clear d4 d5 hk20)
      all_goals
        go_wp2
        go_roundw
        case rel => exact ⟨j + 1, by omega, by go_num, D4.out, HF.out.trans D5.out, d6⟩
        case measure => simp [intOf]; omega
    · obtain rfl : j = L.length := by omega
      rw [List.take_length] at hk
      have HH : Hid (Lk wr B N nT nG lim (cutV V L) (freed X L) md) := hk
      have k22 := unqueue22 t wr hk ht hnT
      clear hk hold HR
      go_wp2_with fail
      refine k22.mono ?_
      rintro e w2 ⟨rfl, hB⟩
      have hb2 : w2.cell? ⟨bx, 0, none⟩ = some (.int .i64 t) := (hB.cell (World.block_lt_of_cell? wr _ hb)).trans hb
      have h2 := HH.out.later hB
      have hr2 : w2.ownsRow N 3 1 (.slice A L.length c) L.length (ic L) := ownsRow_of_block hr' (fun b hbk => hB.block b (hr'.lt b hbk).2)
      have HF2 : Hid (Fr B N w w2) := HF.out.trans (Fr.of_below hB HH.out.size)
      clear k22 HH HF hB hb hr'
      dsimp only
      go_wp2_with fail
      go_loopw [49] (fun i wr => ∃ j, j ≤ L.length ∧ i = .int .i64 (j : Nat) ∧ wr = w2) (fun i _ => L.length - (intOf i).toNat)
      case atStart => exact ⟨0, by omega, rfl, rfl⟩
      case round =>
        obtain ⟨j, hj, rfl, rfl⟩ := hrel
        by_cases hjl : j < L.length
        · obtain ⟨b0, cp0, e0⟩ := ownsRow_form hr2 (by omega)
          obtain ⟨rfl, rfl⟩ : A = some ⟨b0, 0, none⟩ ∧ c = cp0 := by simpa using e0
          obtain ⟨g, hgj⟩ : ∃ g, L[j]? = some g := ⟨L[j], by simp [hjl]⟩
          have hcell : wr.cell? ⟨b0, j, none⟩ = some (.int .i64 (g : Nat)) := by
            rw [World.ownsRow.cellAt hr2 j (by omega)]
            simp [ic, hgj]
          have k23 := serve23 g wr h2 (hL g (List.mem_of_getElem? hgj)).1 hnG
          have H2 : Hid (Lk wr B N nT nG lim (cutV V L) (freed X L) md) := h2
          have HR2 : Hid (wr.ownsRow N 3 1 (.slice (some ⟨b0, 0, none⟩) L.length c) L.length (ic L)) := hr2
          clear h2 hr2 e0
          go_wp2_with fail
          refine k23.mono ?_
          rintro e w3 ⟨rfl, rfl⟩
          dsimp only
          go_wp2
          go_roundw
          case rel => exact ⟨j + 1, by omega, by go_num, by first | trivial | rfl⟩
          case measure => simp [intOf]; omega
        · have k24 := serveWhole24 wr h2
          have H2 : Hid (Lk wr B N nT nG lim (cutV V L) (freed X L) md) := h2
          have HR2 : Hid (wr.ownsRow N 3 1 (.slice A L.length c) L.length (ic L)) := hr2
          clear h2 hr2
          obtain rfl : j = L.length := by omega
          go_wp2_with fail
          refine k24.mono ?_
          rintro e w3 ⟨rfl, hB⟩
          have h3 := H2.out.later hB
          have hb3 : w3.cell? ⟨bx, 0, none⟩ = some (.int .i64 t) := (hB.cell (World.block_lt_of_cell? wr _ hb2)).trans hb2
          have hr3 : w3.ownsRow N 3 1 (.slice A L.length c) L.length (ic L) := ownsRow_of_block HR2.out (fun b hbk => hB.block b (HR2.out.lt b hbk).2)
          have HF3 : Hid (Fr B N w w3) := HF2.out.trans (Fr.of_below hB H2.out.size)
          have c2 := h3.still.c2
          have hv3 : cutV V L 1 t = .slice A L.length c := by rw [cutV_other _ (by omega)]; exact hv
          have c2t : w3.cell? ⟨B.hd, t, none⟩ = some (.slice A L.length c) := by rw [h3.hds.cell ht, hv3]
          have f2t : w3.frozen? ⟨B.hd, t, none⟩ = false := h3.hds.frozen t
          have key := cut_key1 (d := 1) h3 hl1 ht hv3 hr3
          have KEY : Hid ((∃ V'', Lk ((w3.drewN 1).setCell ⟨B.hd, t, none⟩ (.slice A 0 c)) B N nT nG lim V'' (put2 (freed X L) 1 t (ic [])) md) ∧ Fr B N w3 ((w3.drewN 1).setCell ⟨B.hd, t, none⟩ (.slice A 0 c))) := key
          clear key h3 hr3 hB k24 hv hv3 hb2 H2 HR2 HF2
          dsimp only
          go_wp2_with fail
          go_still_tail 7, (by kernel_rfl)
          go_wp2
          go_end0
          exact ⟨rfl, KEY.out.1, HF3.out.trans KEY.out.2⟩
end Go.Proofs.Qxb6616109a
