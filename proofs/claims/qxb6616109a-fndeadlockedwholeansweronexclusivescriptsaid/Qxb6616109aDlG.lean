import Derived.Test.Qxb6616109aDlF
namespace Go.Proofs.Qxb6616109a
open Go.RowKit Go.Deep Go.Joins

/-- The blocks of a lock table. -/
structure Bk where
  p : Nat
  ho : Nat
  qu : Nat
  hd : Nat
  rf : Nat
  qd : Nat
  wa : Nat
  mp : Nat

structure Bk.Ok (B : Bk) (N : Nat) : Prop where
  p : B.p < N ∧ B.p ≠ B.ho ∧ B.p ≠ B.hd ∧ B.p ≠ B.rf
  qu : B.qu < N ∧ B.qu ≠ B.ho ∧ B.qu ≠ B.hd ∧ B.qu ≠ B.rf
  qd : B.qd < N ∧ B.qd ≠ B.ho ∧ B.qd ≠ B.hd ∧ B.qd ≠ B.rf
  wa : B.wa < N ∧ B.wa ≠ B.ho ∧ B.wa ≠ B.hd ∧ B.wa ≠ B.rf
  mp : B.mp < N ∧ B.mp ≠ B.ho ∧ B.mp ≠ B.hd ∧ B.mp ≠ B.rf
  ho : B.ho < N ∧ B.ho ≠ B.hd ∧ B.ho ≠ B.rf
  hd : B.hd < N ∧ B.hd ≠ B.rf
  rf : B.rf < N

/-- The cells of the table of requests. -/
def rfAt (V : Nat → Nat → Value) (md : Nat → Int) : Nat → Value := fun i => if i % 2 = 0 then V 2 (i / 2) else .int .u8 (md (i / 2))

/-- What of a lock table never turns. -/
structure Still (w : World) (B : Bk) (nT nG : Nat) : Prop where
  c0 : w.cell? ⟨B.p, 0, none⟩ = some (.slice (some ⟨B.ho, 0, none⟩) nG nG)
  c1 : w.cell? ⟨B.p, 1, none⟩ = some (.slice (some ⟨B.qu, 0, none⟩) nG nG)
  c2 : w.cell? ⟨B.p, 2, none⟩ = some (.slice (some ⟨B.hd, 0, none⟩) nT nT)
  c3 : w.cell? ⟨B.p, 3, none⟩ = some (.slice (some ⟨B.rf, 0, none⟩) nT nT)
  c4 : w.cell? ⟨B.p, 4, none⟩ = some (.slice (some ⟨B.qd, 0, none⟩) nT nT)
  c5 : w.cell? ⟨B.p, 5, none⟩ = some .nilFunc
  c7 : w.cell? ⟨B.p, 7, none⟩ = some (.slice (some ⟨B.wa, 0, none⟩) nT nT)
  c8 : w.cell? ⟨B.p, 8, none⟩ = some (.map (some B.mp))
  c10 : w.cell? ⟨B.p, 10, none⟩ = some (.slice none 0 0)
  cc : ∀ i, i < 4 → w.cell? ⟨B.p, 11 + i, none⟩ = some (.slice none 0 0) ∧ w.frozen? ⟨B.p, 11 + i, none⟩ = false
  qus : ∀ g, g < nG → w.cell? ⟨B.qu, g, none⟩ = some (.slice none 0 0)
  qds : ∀ t, t < nT → w.cell? ⟨B.qd, t, none⟩ = some (.int .i64 (-1))
  was : ∀ t, t < nT → w.cell? ⟨B.wa, t, none⟩ = some (.int .u64 0)
  mp : ∃ c, w.heap[B.mp]? = some (.map #[] c)

theorem Still.of {w w1 : World} {B : Bk} {N nT nG : Nat} (h : Still w B nT nG) (ok : B.Ok N) (hb : ∀ b, b < N → b ≠ B.ho → b ≠ B.hd → b ≠ B.rf → w1.heap[b]? = w.heap[b]?) : Still w1 B nT nG := by
  have hp : ∀ i, w1.cell? ⟨B.p, i, none⟩ = w.cell? ⟨B.p, i, none⟩ := fun i => World.cell?_of_block (hb _ ok.p.1 ok.p.2.1 ok.p.2.2.1 ok.p.2.2.2)
  have hf : ∀ i, w1.frozen? ⟨B.p, i, none⟩ = w.frozen? ⟨B.p, i, none⟩ := fun i => World.frozen?_of_block (hb _ ok.p.1 ok.p.2.1 ok.p.2.2.1 ok.p.2.2.2)
  refine ⟨(hp 0).trans h.c0, (hp 1).trans h.c1, (hp 2).trans h.c2, (hp 3).trans h.c3, (hp 4).trans h.c4, (hp 5).trans h.c5, (hp 7).trans h.c7, (hp 8).trans h.c8, (hp 10).trans h.c10, fun i hi => ⟨(hp _).trans (h.cc i hi).1, (hf _).trans (h.cc i hi).2⟩, ?_, ?_, ?_, ?_⟩
  · intro g hg
    exact (World.cell?_of_block (hb _ ok.qu.1 ok.qu.2.1 ok.qu.2.2.1 ok.qu.2.2.2)).trans (h.qus g hg)
  · intro g hg
    exact (World.cell?_of_block (hb _ ok.qd.1 ok.qd.2.1 ok.qd.2.2.1 ok.qd.2.2.2)).trans (h.qds g hg)
  · intro g hg
    exact (World.cell?_of_block (hb _ ok.wa.1 ok.wa.2.1 ok.wa.2.2.1 ok.wa.2.2.2)).trans (h.was g hg)
  · obtain ⟨c, hc⟩ := h.mp
    exact ⟨c, (hb _ ok.mp.1 ok.mp.2.1 ok.mp.2.2.1 ok.mp.2.2.2).trans hc⟩

/-- A lock table: what never turns, the three tables that do, and the rows. -/
structure Lk (w : World) (B : Bk) (N nT nG : Nat) (lim : Nat → Nat) (V : Nat → Nat → Value) (X : Nat → Nat → List Value) (md : Nat → Int) : Prop where
  ok : B.Ok N
  size : N ≤ w.heap.size
  still : Still w B nT nG
  hos : w.rowIs B.ho 57 nG (V 0)
  hds : w.rowIs B.hd 25 nT (V 1)
  rfs : w.rowIs B.rf 54 (nT * 2) (rfAt V md)
  fam : Fam w N lim V X

/-- What a call on the table leaves of the rest. -/
structure Fr (B : Bk) (N : Nat) (w w' : World) : Prop where
  os : w'.os = w.os
  tape : w'.tape = w.tape
  output : w'.output = w.output
  size : w.heap.size ≤ w'.heap.size
  block : ∀ b, b < N → b ≠ B.ho → b ≠ B.hd → b ≠ B.rf → w'.heap[b]? = w.heap[b]?

theorem Fr.refl (B : Bk) (N : Nat) (w : World) : Fr B N w w := ⟨rfl, rfl, rfl, Nat.le_refl _, fun _ _ _ _ _ => rfl⟩
theorem Fr.trans {B : Bk} {N : Nat} {a b c : World} (h : Fr B N a b) (k : Fr B N b c) : Fr B N a c :=
  ⟨k.os.trans h.os, k.tape.trans h.tape, k.output.trans h.output, Nat.le_trans h.size k.size, fun i h1 h2 h3 h4 => (k.block i h1 h2 h3 h4).trans (h.block i h1 h2 h3 h4)⟩
theorem Fr.of_below {B : Bk} {N n : Nat} {w w' : World} (h : Below n w w') (hN : N ≤ n) : Fr B N w w' := ⟨h.os, h.tape, h.output, h.size, fun b hb _ _ _ => h.block b (by omega)⟩

variable {w w1 : World} {B : Bk} {N nT nG : Nat} {lim : Nat → Nat} {V : Nat → Nat → Value} {X : Nat → Nat → List Value} {md : Nat → Int}

/-- New blocks alone. -/
theorem Lk.later (h : Lk w B N nT nG lim V X md) (hb : Below w.heap.size w w1) : Lk w1 B N nT nG lim V X md := by
  have hs := h.size
  exact ⟨h.ok, Nat.le_trans hs hb.size, h.still.of h.ok (fun b hb1 _ _ _ => hb.block b (by omega)), h.hos.of_block (hb.block _ (by have := h.ok.ho.1; omega)), h.hds.of_block (hb.block _ (by have := h.ok.hd.1; omega)), h.rfs.of_block (hb.block _ (by have := h.ok.rf; omega)), h.fam.keep (fun b _ h2 => hb.block b h2)⟩

theorem Lk.drewN (h : Lk w B N nT nG lim V X md) (d : Nat) : Lk (w.drewN d) B N nT nG lim V X md := ⟨h.ok, h.size, h.still.of h.ok (fun _ _ _ _ _ => rfl), h.hos, h.hds, h.rfs, h.fam.keep (fun _ _ _ => rfl)⟩

/-- What is known when row (k, i) has been turned in w1, ahead of the store into its table. -/
structure Turn (w w1 : World) (N : Nat) (V : Nat → Nat → Value) (k i : Nat) (v : Value) (xs : List Value) : Prop where
  os : w1.os = w.os
  tape : w1.tape = w.tape
  output : w1.output = w.output
  size : w.heap.size ≤ w1.heap.size
  rest : ∀ b, b < w.heap.size → (V k i).ownBlock ≠ some b → w1.heap[b]? = w.heap[b]?
  own : w1.ownsRow N (ety k) (esz k) v (xs.length / esz k) xs
  fresh : ∀ b, v.ownBlock = some b → (V k i).ownBlock = some b ∨ w.heap.size ≤ b

theorem Turn.low (h : Lk w B N nT nG lim V X md) {k i : Nat} {v : Value} {xs : List Value} (hi : i < lim k) (ht : Turn w w1 N V k i v xs) : ∀ b, b < N → w1.heap[b]? = w.heap[b]? := by
  intro b hb
  have hs := h.size
  exact ht.rest b (by omega) (fun e => by have := (h.fam.blk hi e).1; omega)

theorem lk_put0 (h : Lk w B N nT nG lim V X md) {g : Nat} {v : Value} {xs : List Value} (hg : g < nG) (hl : lim 0 = nG) (ht : Turn w w1 N V 0 g v xs) :
    Lk (w1.setCell ⟨B.ho, g, none⟩ v) B N nT nG lim (put2 V 0 g v) (put2 X 0 g xs) md ∧ Fr B N w (w1.setCell ⟨B.ho, g, none⟩ v) := by
  have hi : g < lim 0 := by omega
  have low := ht.low h hi
  have ok := h.ok
  have hset : ∀ b, b ≠ B.ho → (w1.setCell ⟨B.ho, g, none⟩ v).heap[b]? = w1.heap[b]? := fun b hb => Below.heap_setCell _ _ _ _ (by simpa using hb)
  have hfr : Fr B N w (w1.setCell ⟨B.ho, g, none⟩ v) := ⟨ht.os, ht.tape, ht.output, by rw [nblk_setCell]; exact ht.size, fun b h1 h2 _ _ => (hset b h2).trans (low b h1)⟩
  have hsz := h.size
  have hsz1 := ht.size
  refine ⟨⟨ok, by rw [nblk_setCell]; omega, h.still.of ok hfr.block, ?_, ?_, ?_, ?_⟩, hfr⟩
  · have h1 : w1.rowIs B.ho 57 nG (V 0) := h.hos.of_block (low _ ok.ho.1)
    refine (h1.set g v).congr fun i hi => ?_
    by_cases e : i = g
    · subst e; simp [put2]
    · simp [put2, e]
  · exact ((h.hds.of_block (low _ ok.hd.1)).of_block (hset _ (fun e => ok.ho.2.1 e.symm))).congr fun i _ => by simp [put2]
  · exact ((h.rfs.of_block (low _ ok.rf)).of_block (hset _ (fun e => ok.ho.2.2 e.symm))).congr fun i _ => by simp [rfAt, put2]
  · refine (h.fam.put (by decide) hi (w1 := w1) (fun b _ h2 h3 => ht.rest b h2 h3) ht.own ht.fresh).keep ?_
    intro b h1 _
    exact hset b (by have := ok.ho.1; omega)

theorem lk_put1 (h : Lk w B N nT nG lim V X md) {t : Nat} {v : Value} {xs : List Value} (hg : t < nT) (hl : lim 1 = nT) (ht : Turn w w1 N V 1 t v xs) :
    Lk (w1.setCell ⟨B.hd, t, none⟩ v) B N nT nG lim (put2 V 1 t v) (put2 X 1 t xs) md ∧ Fr B N w (w1.setCell ⟨B.hd, t, none⟩ v) := by
  have hi : t < lim 1 := by omega
  have low := ht.low h hi
  have ok := h.ok
  have hset : ∀ b, b ≠ B.hd → (w1.setCell ⟨B.hd, t, none⟩ v).heap[b]? = w1.heap[b]? := fun b hb => Below.heap_setCell _ _ _ _ (by simpa using hb)
  have hfr : Fr B N w (w1.setCell ⟨B.hd, t, none⟩ v) := ⟨ht.os, ht.tape, ht.output, by rw [nblk_setCell]; exact ht.size, fun b h1 _ h2 _ => (hset b h2).trans (low b h1)⟩
  have hsz := h.size
  have hsz1 := ht.size
  refine ⟨⟨ok, by rw [nblk_setCell]; omega, h.still.of ok hfr.block, ?_, ?_, ?_, ?_⟩, hfr⟩
  · exact ((h.hos.of_block (low _ ok.ho.1)).of_block (hset _ ok.ho.2.1)).congr fun i _ => by simp [put2]
  · have h1 : w1.rowIs B.hd 25 nT (V 1) := h.hds.of_block (low _ ok.hd.1)
    refine (h1.set t v).congr fun i hi => ?_
    by_cases e : i = t
    · subst e; simp [put2]
    · simp [put2, e]
  · exact ((h.rfs.of_block (low _ ok.rf)).of_block (hset _ (fun e => ok.hd.2 e.symm))).congr fun i _ => by simp [rfAt, put2]
  · refine (h.fam.put (by decide) hi (w1 := w1) (fun b _ h2 h3 => ht.rest b h2 h3) ht.own ht.fresh).keep ?_
    intro b h1 _
    exact hset b (by have := ok.hd.1; omega)

theorem lk_put2 (h : Lk w B N nT nG lim V X md) {t : Nat} {v : Value} {xs : List Value} (hg : t < nT) (hl : lim 2 = nT) (ht : Turn w w1 N V 2 t v xs) :
    Lk (w1.setCell ⟨B.rf, t * 2, none⟩ v) B N nT nG lim (put2 V 2 t v) (put2 X 2 t xs) md ∧ Fr B N w (w1.setCell ⟨B.rf, t * 2, none⟩ v) := by
  have hi : t < lim 2 := by omega
  have low := ht.low h hi
  have ok := h.ok
  have hset : ∀ b, b ≠ B.rf → (w1.setCell ⟨B.rf, t * 2, none⟩ v).heap[b]? = w1.heap[b]? := fun b hb => Below.heap_setCell _ _ _ _ (by simpa using hb)
  have hfr : Fr B N w (w1.setCell ⟨B.rf, t * 2, none⟩ v) := ⟨ht.os, ht.tape, ht.output, by rw [nblk_setCell]; exact ht.size, fun b h1 _ _ h2 => (hset b h2).trans (low b h1)⟩
  have hsz := h.size
  have hsz1 := ht.size
  refine ⟨⟨ok, by rw [nblk_setCell]; omega, h.still.of ok hfr.block, ?_, ?_, ?_, ?_⟩, hfr⟩
  · exact ((h.hos.of_block (low _ ok.ho.1)).of_block (hset _ ok.ho.2.2)).congr fun i _ => by simp [put2]
  · exact ((h.hds.of_block (low _ ok.hd.1)).of_block (hset _ ok.hd.2)).congr fun i _ => by simp [put2]
  · have h1 : w1.rowIs B.rf 54 (nT * 2) (rfAt V md) := h.rfs.of_block (low _ ok.rf)
    refine (h1.set (t * 2) v).congr fun i hi => ?_
    by_cases e : i = t * 2
    · subst e; simp [put2, rfAt]
    · rw [if_neg e]
      unfold rfAt
      by_cases e2 : i % 2 = 0
      · rw [if_pos e2, if_pos e2, put2_other _ _ (by omega)]
      · rw [if_neg e2, if_neg e2]
  · refine (h.fam.put (by decide) hi (w1 := w1) (fun b _ h2 h3 => ht.rest b h2 h3) ht.own ht.fresh).keep ?_
    intro b h1 _
    exact hset b (by have := ok.rf; omega)

theorem lk_mode (h : Lk w B N nT nG lim V X md) (t : Nat) (m : Int) :
    Lk (w.setCell ⟨B.rf, t * 2 + 1, none⟩ (.int .u8 m)) B N nT nG lim V X (fun i => if i = t then m else md i) ∧ Fr B N w (w.setCell ⟨B.rf, t * 2 + 1, none⟩ (.int .u8 m)) := by
  have ok := h.ok
  have hset : ∀ b, b ≠ B.rf → (w.setCell ⟨B.rf, t * 2 + 1, none⟩ (.int .u8 m)).heap[b]? = w.heap[b]? := fun b hb => Below.heap_setCell _ _ _ _ (by simpa using hb)
  have hfr : Fr B N w (w.setCell ⟨B.rf, t * 2 + 1, none⟩ (.int .u8 m)) := ⟨rfl, rfl, rfl, by rw [nblk_setCell]; exact Nat.le_refl _, fun b h1 _ _ h2 => hset b h2⟩
  refine ⟨⟨ok, by rw [nblk_setCell]; exact h.size, h.still.of ok hfr.block, h.hos.of_block (hset _ ok.ho.2.2), h.hds.of_block (hset _ ok.hd.2), ?_, ?_⟩, hfr⟩
  · refine (h.rfs.set (t * 2 + 1) _).congr fun i hi => ?_
    by_cases e : i = t * 2 + 1
    · subst e
      have e1 : (t * 2 + 1) % 2 = 1 := by omega
      have e2 : (t * 2 + 1) / 2 = t := by omega
      simp [rfAt, e1, e2]
    · rw [if_neg e]
      unfold rfAt
      by_cases e2 : i % 2 = 0
      · rw [if_pos e2, if_pos e2]
      · rw [if_neg e2, if_neg e2]
        show _ = Value.int .u8 (if i / 2 = t then m else md (i / 2))
        rw [if_neg (by omega)]
  · exact h.fam.keep fun b h1 _ => hset b (by have := ok.rf; omega)
end Go.Proofs.Qxb6616109a
