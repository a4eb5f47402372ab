import Derived.Test.Qxb6616109aDmF
import Derived.Test.Qxb6616109aCut
namespace Go.Proofs.Qxb6616109a
open Go.RowKit Go.Deep Go.Joins
set_option linter.unusedSimpArgs false
set_option linter.unusedVariables false

/-- A number or -1. -/
def nv : Option Nat → Int
  | none => -1
  | some n => n

/-- The table, and the law's own three rows beside it. -/
structure Lx (wD w : World) (B : Bk) (N nT nG hb ob wb : Nat) (V : Nat → Nat → Value) (X : Nat → Nat → List Value) (md : Nat → Int) (hf wf : Nat → Int) : Prop where
  lk : Lk w B N nT nG (lim0 nT nG) V X md
  okh : B.Ok hb
  ord : hb < wb ∧ hb < ob ∧ wb ≠ ob ∧ wb < N ∧ ob < N
  rh : w.rowIs hb 3 nG (fun g => .int .i64 (hf g))
  rw_ : w.rowIs wb 3 nT (fun t => .int .i64 (wf t))
  ro : w.rowIs ob 25 nT (V 3)
  sd : wD.heap.size ≤ hb ∧ wD.heap.size ≤ B.ho ∧ wD.heap.size ≤ B.hd ∧ wD.heap.size ≤ B.rf ∧ wD.heap.size ≤ B.p
  below : Below wD.heap.size wD w

/-- .. and what they mean. -/
structure Lw (wD w : World) (B : Bk) (N nT nG hb ob wb : Nat) (V : Nat → Nat → Value) (X : Nat → Nat → List Value) (md : Nat → Int) (H rq : Nat → Option Nat) (L : Nat → List Nat) : Prop where
  lx : Lx wD w B N nT nG hb ob wb V X md (fun g => nv (H g)) (fun t => nv (rq t))
  x0 : ∀ g, g < nG → X 0 g = hc (H g)
  x1 : ∀ t, t < nT → X 1 t = ic (L t)
  x2 : ∀ t, t < nT → X 2 t = ic (rq t).toList
  x3 : ∀ t, t < nT → X 3 t = ic (L t)
  rq : ∀ t, t < nT → ∀ g, rq t = some g → g < nG
  ho : ∀ g, g < nG → ∀ t, H g = some t → t < nT
  mem : ∀ t, t < nT → ∀ g, g ∈ L t ↔ g < nG ∧ H g = some t
  nd : ∀ t, t < nT → (L t).Nodup

variable {wD w w1 : World} {B : Bk} {N nT nG hb ob wb : Nat} {V V' : Nat → Nat → Value} {X X' : Nat → Nat → List Value} {md md' : Nat → Int} {hf wf : Nat → Int} {H rq : Nat → Option Nat} {L : Nat → List Nat}

theorem Lw.ll (h : Lw wD w B N nT nG hb ob wb V X md H rq L) (hnG : nG ≤ 65536) {t : Nat} (ht : t < nT) : (L t).length ≤ 65536 := by
  have := nodup_len (nT := nG) (h.nd t ht) (fun g hg => ((h.mem t ht g).1 hg).1)
  omega
theorem Lw.tb (h : Lw wD w B N nT nG hb ob wb V X md H rq L) (hnG : nG ≤ 65536) : Tb w B N nT nG (lim0 nT nG) V X md H rq L :=
  ⟨h.lx.lk, rfl, rfl, rfl, h.x0, h.x1, h.x2, h.rq, h.ho, fun t ht => h.ll hnG ht⟩

/-- Only new blocks, or draws. -/
theorem Lx.later (h : Lx wD w B N nT nG hb ob wb V X md hf wf) (hB : Below w.heap.size w w1) : Lx wD w1 B N nT nG hb ob wb V X md hf wf := by
  have hs := h.lk.size
  have ho := h.ord
  have hd := h.below.size
  have hk : ∀ b, b < N → w1.heap[b]? = w.heap[b]? := fun b hb => hB.block b (by omega)
  exact ⟨h.lk.later hB, h.okh, h.ord, h.rh.of_block (hk _ (by omega)), h.rw_.of_block (hk _ (by omega)), h.ro.of_block (hk _ (by omega)), h.sd, h.below.trans (hB.mono (by omega))⟩

/-- A call on the table. -/
theorem Lx.call (h : Lx wD w B N nT nG hb ob wb V X md hf wf) (hl : Lk w1 B N nT nG (lim0 nT nG) V' X' md') (hF : Fr B N w w1) (h4 : ∀ i, X' 4 i = X 4 i) : Lx wD w1 B N nT nG hb ob wb V' X' md' hf wf := by
  have ho := h.ord
  have hv : V' 3 = V 3 := by
    funext i
    have h1 := hl.fam.fix i
    rw [h4 i, h.lk.fam.fix i] at h1
    simpa using h1.symm
  have ok := h.okh
  have o1 := ok.ho.1
  have o2 := ok.hd.1
  have o3 := ok.rf
  have hsd := h.sd
  have hk : ∀ b, hb ≤ b → b < N → w1.heap[b]? = w.heap[b]? := fun b h1 h2 => hF.block b h2 (by omega) (by omega) (by omega)
  refine ⟨hl, ok, ho, h.rh.of_block (hk _ (by omega) (by omega)), h.rw_.of_block (hk _ (by omega) (by omega)), ?_, h.sd, ?_⟩
  · rw [hv]; exact h.ro.of_block (hk _ (by omega) (by omega))
  · refine h.below.trans ⟨hF.os, hF.tape, hF.output, hF.size, fun b hb' => hF.block b (by omega) (by omega) (by omega) (by omega)⟩

/-- A store far from the table. -/
theorem lk_far (h : Lk w B N nT nG (lim0 nT nG) V X md) (ok : B.Ok hb) {b i : Nat} (hb1 : hb ≤ b) (hb2 : b < N) (u : Value) : Lk (w.setCell ⟨b, i, none⟩ u) B N nT nG (lim0 nT nG) V X md := by
  have hset : ∀ c, c ≠ b → (w.setCell ⟨b, i, none⟩ u).heap[c]? = w.heap[c]? := fun c hc => Below.heap_setCell _ _ _ _ (by simpa using hc)
  have o1 := ok.ho.1
  have o2 := ok.hd.1
  have o3 := ok.rf
  have hp : ∀ c, c < hb → (w.setCell ⟨b, i, none⟩ u).heap[c]? = w.heap[c]? := fun c hc => hset c (by omega)
  refine ⟨h.ok, by rw [nblk_setCell]; exact h.size, h.still.of ok (fun c hc _ _ _ => hp c hc), h.hos.of_block (hp _ (by omega)), h.hds.of_block (hp _ (by omega)), h.rfs.of_block (hp _ (by omega)), h.fam.keep (fun c h1 _ => hset c (by omega))⟩

theorem Lx.setH (h : Lx wD w B N nT nG hb ob wb V X md hf wf) (g : Nat) (z : Int) : Lx wD (w.setCell ⟨hb, g, none⟩ (.int .i64 z)) B N nT nG hb ob wb V X md (fun x => if x = g then z else hf x) wf := by
  have ho := h.ord
  have hsd := h.sd
  have hset : ∀ c, c ≠ hb → (w.setCell ⟨hb, g, none⟩ (.int .i64 z)).heap[c]? = w.heap[c]? := fun c hc => Below.heap_setCell _ _ _ _ (by simpa using hc)
  refine ⟨lk_far h.lk h.okh (Nat.le_refl _) (by omega) _, h.okh, ho, ?_, h.rw_.of_block (hset _ (by omega)), h.ro.of_block (hset _ (by omega)), hsd, h.below.setCell (p := ⟨hb, g, none⟩) (by dsimp only; omega) _⟩
  refine (h.rh.set g _).congr fun i hi => ?_
  by_cases e : i = g <;> simp [e]
theorem Lx.setW (h : Lx wD w B N nT nG hb ob wb V X md hf wf) (t : Nat) (z : Int) : Lx wD (w.setCell ⟨wb, t, none⟩ (.int .i64 z)) B N nT nG hb ob wb V X md hf (fun x => if x = t then z else wf x) := by
  have ho := h.ord
  have hsd := h.sd
  have hset : ∀ c, c ≠ wb → (w.setCell ⟨wb, t, none⟩ (.int .i64 z)).heap[c]? = w.heap[c]? := fun c hc => Below.heap_setCell _ _ _ _ (by simpa using hc)
  refine ⟨lk_far h.lk h.okh (by omega) (by omega) _, h.okh, ho, h.rh.of_block (hset _ (by omega)), ?_, h.ro.of_block (hset _ (by omega)), hsd, h.below.setCell (p := ⟨wb, t, none⟩) (by dsimp only; omega) _⟩
  refine (h.rw_.set t _).congr fun i hi => ?_
  by_cases e : i = t <;> simp [e]

theorem fam_put3 {lim : Nat → Nat} (h : Fam w N lim V X) (h4 : lim 4 = 0) {t : Nat} (hi : t < lim 3) {v : Value} {xs : List Value}
    (hrest : ∀ b, N ≤ b → b < w.heap.size → (V 3 t).ownBlock ≠ some b → w1.heap[b]? = w.heap[b]?)
    (hv : w1.ownsRow N 3 1 v xs.length xs) (hfr : ∀ b, v.ownBlock = some b → (V 3 t).ownBlock = some b ∨ w.heap.size ≤ b) : Fam w1 N lim (put2 V 3 t v) (put2 (put2 X 3 t xs) 4 t [v]) := by
  refine ⟨?_, ?_, ?_⟩
  · intro k' i' hi'
    by_cases e4 : k' = 4
    · subst e4; omega
    rw [put2_other (put2 X 3 t xs) _ (by omega)]
    by_cases e : k' = 3 ∧ i' = t
    · obtain ⟨rfl, rfl⟩ := e
      rw [put2_same, put2_same]
      simpa [ety, esz] using hv
    · rw [put2_other _ _ e, put2_other _ _ e]
      refine ownsRow_of_block (h.row k' i' hi') (fun b hb => hrest b (h.blk hi' hb).1 (h.blk hi' hb).2 (fun hb2 => e (h.ap k' i' 3 t b hi' hi hb hb2)))
  · intro k1 i1 k2 i2 b h1 h2 hb1 hb2
    by_cases e1 : k1 = 3 ∧ i1 = t
    · by_cases e2 : k2 = 3 ∧ i2 = t
      · exact ⟨by omega, by omega⟩
      · obtain ⟨rfl, rfl⟩ := e1
        rw [put2_same] at hb1
        rw [put2_other _ _ e2] at hb2
        rcases hfr b hb1 with hh | hh
        · exact h.ap _ _ _ _ b hi h2 hh hb2
        · have := (h.blk h2 hb2).2; omega
    · by_cases e2 : k2 = 3 ∧ i2 = t
      · obtain ⟨rfl, rfl⟩ := e2
        rw [put2_same] at hb2
        rw [put2_other _ _ e1] at hb1
        rcases hfr b hb2 with hh | hh
        · exact h.ap _ _ _ _ b h1 hi hb1 hh
        · have := (h.blk h1 hb1).2; omega
      · rw [put2_other _ _ e1] at hb1
        rw [put2_other _ _ e2] at hb2
        exact h.ap _ _ _ _ b h1 h2 hb1 hb2
  · intro j
    by_cases e : j = t
    · subst e; rw [put2_same, put2_same]
    · rw [put2_other (put2 X 3 t xs) _ (by omega), put2_other X _ (by omega), put2_other V _ (by omega)]
      exact h.fix j

/-- The law's own row of t is turned, and stored. -/
theorem Lx.setO (h : Lx wD w B N nT nG hb ob wb V X md hf wf) {t : Nat} (ht : t < nT) {v : Value} {xs : List Value} (hT : Tn N w w1 (V 3 t) v xs) :
    Lx wD (w1.setCell ⟨ob, t, none⟩ v) B N nT nG hb ob wb (put2 V 3 t v) (put2 (put2 X 3 t xs) 4 t [v]) md hf wf := by
  have ho := h.ord
  have hsd := h.sd
  have hs := h.lk.size
  have hs1 := hT.size
  have hi : t < lim0 nT nG 3 := by simpa [lim0] using ht
  have low : ∀ b, b < N → w1.heap[b]? = w.heap[b]? := fun b hb => hT.rest b (by omega) (fun e => by have := (h.lk.fam.blk hi e).1; omega)
  have ok := h.lk.ok
  have lk1 : Lk w1 B N nT nG (lim0 nT nG) (put2 V 3 t v) (put2 (put2 X 3 t xs) 4 t [v]) md := by
    refine ⟨ok, by omega, h.lk.still.of ok (fun b hb _ _ _ => low b hb), ?_, ?_, ?_, fam_put3 h.lk.fam rfl hi (fun b _ h2 h3 => hT.rest b h2 h3) hT.own hT.fresh⟩
    · exact (h.lk.hos.of_block (low _ ok.ho.1)).congr fun i _ => by simp [put2]
    · exact (h.lk.hds.of_block (low _ ok.hd.1)).congr fun i _ => by simp [put2]
    · exact (h.lk.rfs.of_block (low _ ok.rf)).congr fun i _ => by simp [rfAt, put2]
  have hset : ∀ c, c ≠ ob → (w1.setCell ⟨ob, t, none⟩ v).heap[c]? = w1.heap[c]? := fun c hc => Below.heap_setCell _ _ _ _ (by simpa using hc)
  refine ⟨lk_far lk1 h.okh (by omega) (by omega) _, h.okh, ho, ?_, ?_, ?_, hsd, ?_⟩
  · exact (h.rh.of_block (low _ (by omega))).of_block (hset _ (by omega))
  · exact (h.rw_.of_block (low _ (by omega))).of_block (hset _ (by omega))
  · refine ((h.ro.of_block (low _ (by omega))).set t v).congr fun i hi => ?_
    by_cases e : i = t
    · subst e; simp [put2]
    · simp [put2, e]
  · refine Below.setCell (p := ⟨ob, t, none⟩) ?_ (by dsimp only; omega) _
    exact h.below.trans ⟨hT.os, hT.tape, hT.output, hT.size, fun b hb' => low b (by omega)⟩
end Go.Proofs.Qxb6616109a
