import Derived.Test.Qxb6616109aClone2
import Derived.Test.Qxb6616109aAppend
import Derived.Test.Qxb6616109aPlain
namespace Go.Proofs.Qxb6616109a
open Go.RowKit Go.Deep Go.Joins

/-- What lies behind the pointer to a 'timestamps' (block p): the field pending (block gP: n nil rows), the field waiters (block gW: the table of rows), wake, not tentative. -/
structure Ts (w : World) (lo hi N p gW gP n : Nat) (vs : Nat → Value) (zs : Nat → List Int) : Prop where
  c4 : w.cell? ⟨p, 4, none⟩ = some (.slice (some ⟨gP, 0, none⟩) n n)
  c5 : w.cell? ⟨p, 5, none⟩ = some (.slice (some ⟨gW, 0, none⟩) n n)
  c6 : w.cell? ⟨p, 6, none⟩ = some (.func (Fn.func 27) #[] #[])
  c7 : w.cell? ⟨p, 7, none⟩ = some (.bool false)
  pend : w.rowIs gP 25 n (fun _ => .slice none 0 0)
  jag : Jag w lo gW n n vs zs
  far : ∀ r b, r < n → (vs r).ownBlock = some b → b < hi ∨ N ≤ b
  size : N ≤ w.heap.size

/-- How the blocks lie. -/
structure Lie (lo hi N p gW gP : Nat) : Prop where
  h1 : gW < lo
  h2 : lo ≤ hi
  h3 : hi ≤ gP
  h4 : gP < p
  h5 : p < N

/-- Below N nothing has turned but the table of waiters, its first rows, and the block of pending. -/
structure Same (lo hi N gW gP : Nat) (w w' : World) : Prop where
  os : w'.os = w.os
  tape : w'.tape = w.tape
  output : w'.output = w.output
  size : w.heap.size ≤ w'.heap.size
  block : ∀ k, k < N → k ≠ gW → (lo ≤ k → hi ≤ k) → k ≠ gP → w'.heap[k]? = w.heap[k]?

theorem Same.refl (lo hi N gW gP : Nat) (w : World) : Same lo hi N gW gP w w := ⟨rfl, rfl, rfl, Nat.le_refl _, fun _ _ _ _ _ => rfl⟩
theorem Same.trans {lo hi N gW gP : Nat} {a b c : World} (h : Same lo hi N gW gP a b) (k : Same lo hi N gW gP b c) : Same lo hi N gW gP a c :=
  ⟨k.os.trans h.os, k.tape.trans h.tape, k.output.trans h.output, Nat.le_trans h.size k.size, fun i h1 h2 h3 h4 => (k.block i h1 h2 h3 h4).trans (h.block i h1 h2 h3 h4)⟩

theorem Jag.store {w w1 : World} {lo g n : Nat} {vs : Nat → Value} {zs : Nat → List Int} {k : Nat} {v : Value} {l : List Int} (hj : Jag w lo g n n vs zs) (hk : k < n) (hlo : g < lo)
    (hrest : ∀ b, b < w.heap.size → (vs k).ownBlock ≠ some b → w1.heap[b]? = w.heap[b]?)
    (hv : w1.ownsRow lo 3 1 v l.length (l.map (Value.int .i64))) (hfr : ∀ b, v.ownBlock = some b → (vs k).ownBlock = some b ∨ w.heap.size ≤ b) :
    Jag (w1.setCell ⟨g, k, none⟩ v) lo g n n (putAt vs k v) (putL zs k l) := by
  have hglt := hj.outer.lt
  have hold : ∀ r b, r < n → (vs r).ownBlock = some b → b < w.heap.size ∧ lo ≤ b := fun r b hr hb => ⟨((hj.row r hr).lt b hb).2, ((hj.row r hr).lt b hb).1⟩
  refine ⟨?_, ?_, ?_⟩
  · have h1 : w1.rowIs g 25 n (fun r => if r < n then vs r else .slice none 0 0) := hj.outer.of_block (hrest g hglt (fun hb => by have := (hold k g hk hb).2; omega))
    refine (h1.set k v).congr fun i hi => ?_
    unfold putAt
    by_cases e : i = k
    · subst e; simp [hk]
    · simp [e, hi]
  · intro r hr
    by_cases e : r = k
    · subst e
      simp only [putAt, putL, if_true]
      refine ownsRow_setCell_other hv ?_ _
      intro hb
      have := (hv.lt _ hb).1
      simp at this
      omega
    · simp only [putAt, putL, if_neg e]
      refine ownsRow_setCell_other ?_ ?_ _
      · refine ⟨(hj.row r hr).1, ?_⟩
        rcases (hj.row r hr).2 with h0 | ⟨g', cap, cur, hv', hb', hg', r'⟩
        · exact Or.inl h0
        · refine Or.inr ⟨g', cap, cur, hv', hb', ?_, r'⟩
          rw [hrest g' (lt_of_block hg') (fun hb => e (hj.ap r k g' hr hk (by rw [hv']; rfl) hb))]
          exact hg'
      · intro hb
        have := (hold r _ hr hb).2
        simp at this
        omega
  · intro r s b hr hs' hrb hsb
    unfold putAt at hrb hsb
    by_cases e1 : r = k
    · by_cases e2 : s = k
      · omega
      · rw [if_pos e1] at hrb; rw [if_neg e2] at hsb
        rcases hfr b hrb with h | h
        · exact e1.trans (hj.ap k s b hk hs' h hsb)
        · have h2 := (hold s b hs' hsb).1
          omega
    · by_cases e2 : s = k
      · rw [if_neg e1] at hrb; rw [if_pos e2] at hsb
        rcases hfr b hsb with h | h
        · exact (hj.ap r k b hr hk hrb h).trans e2.symm
        · have h2 := (hold r b hr hrb).1
          omega
      · rw [if_neg e1] at hrb; rw [if_neg e2] at hsb
        exact hj.ap r s b hr hs' hrb hsb

/-- What the store of row o leaves, whatever became of that row's own block. -/
theorem ts_store {w w1 : World} {lo hi N p gW gP n : Nat} {vs : Nat → Value} {zs : Nat → List Int} {o : Nat} {v : Value} {l : List Int} (hl : Lie lo hi N p gW gP) (hts : Ts w lo hi N p gW gP n vs zs) (ho : o < n)
    (hos : w1.os = w.os) (htape : w1.tape = w.tape) (hout : w1.output = w.output) (hsz : w.heap.size ≤ w1.heap.size)
    (hrest : ∀ b, b < w.heap.size → (vs o).ownBlock ≠ some b → w1.heap[b]? = w.heap[b]?)
    (hv : w1.ownsRow lo 3 1 v l.length (l.map (Value.int .i64))) (hfr : ∀ b, v.ownBlock = some b → (vs o).ownBlock = some b ∨ w.heap.size ≤ b) :
    w1.cell? ⟨p, 5, none⟩ = some (.slice (some ⟨gW, 0, none⟩) n n) ∧ w1.cell? ⟨gW, o, none⟩ = some (vs o) ∧ w1.frozen? ⟨gW, o, none⟩ = false ∧
      Ts (w1.setCell ⟨gW, o, none⟩ v) lo hi N p gW gP n (putAt vs o v) (putL zs o l) ∧ Same lo hi N gW gP w (w1.setCell ⟨gW, o, none⟩ v) := by
  obtain ⟨l1, l2, l3, l4, l5⟩ := hl
  have hN := hts.size
  have hob : ∀ b, (vs o).ownBlock = some b → lo ≤ b ∧ (b < hi ∨ N ≤ b) := fun b hb => ⟨((hts.jag.row o ho).lt b hb).1, hts.far o b ho hb⟩
  have hp : ∀ b, b < N → (lo ≤ b → hi ≤ b) → w1.heap[b]? = w.heap[b]? := fun b h1 h2 => hrest b (by omega) (fun hb => by have := hob b hb; omega)
  have hpc : ∀ i, w1.cell? ⟨p, i, none⟩ = w.cell? ⟨p, i, none⟩ := fun i => World.cell?_of_block (hp p (by omega) (by omega))
  have hps : ∀ i, (w1.setCell ⟨gW, o, none⟩ v).cell? ⟨p, i, none⟩ = w.cell? ⟨p, i, none⟩ := fun i => by
    rw [← hpc i]
    exact World.cell?_of_block (Below.heap_setCell _ _ _ _ (by simp; omega))
  refine ⟨(hpc 5).trans hts.c5, ?_, ?_, ⟨?_, ?_, ?_, ?_, ?_, ?_, ?_, ?_⟩, ⟨?_, ?_, ?_, ?_, ?_⟩⟩
  · rw [World.cell?_of_block (w := w) (hp gW (by omega) (by omega))]; exact hts.jag.rowAt ho
  · rw [World.frozen?_of_block (w := w) (hp gW (by omega) (by omega))]; exact hts.jag.outer.frozen o
  · exact (hps 4).trans hts.c4
  · exact (hps 5).trans hts.c5
  · exact (hps 6).trans hts.c6
  · exact (hps 7).trans hts.c7
  · exact (hts.pend.of_block (hp gP (by omega) (by omega))).setOther (by simp; omega) v
  · exact hts.jag.store ho l1 hrest hv hfr
  · intro r b hr hb
    unfold putAt at hb
    by_cases e : r = o
    · rw [if_pos e] at hb
      rcases hfr b hb with h | h
      · exact hts.far o b ho h
      · right; omega
    · rw [if_neg e] at hb
      exact hts.far r b hr hb
  · rw [nblk_setCell]; omega
  · exact hos
  · exact htape
  · exact hout
  · rw [nblk_setCell]; exact hsz
  · intro k h1 h2 h3 _
    rw [Below.heap_setCell _ _ _ _ (by simpa using h2)]
    exact hp k h1 h3

theorem await_key {w : World} {lo hi N p gW gP n : Nat} {vs : Nat → Value} {zs : Nat → List Int} {o : Nat} {tx : Int} {A : Option Addr} {c : Nat} (hl : Lie lo hi N p gW gP) (hts : Ts w lo hi N p gW gP n vs zs) (ho : o < n) (hv : vs o = .slice A (zs o).length c)
    {g cap : Nat} {w' : World} (h1 : w'.ownsRow lo 3 1 (.slice (some ⟨g, 0, none⟩) ((zs o).length + 1) cap) ((zs o).length + 1) ((zs o).map (Value.int .i64) ++ [.int .i64 tx]))
    (h2 : ((w.alloc (.cells #[.int .i64 tx] 3)).drew).grownBy w' (Value.slice A (zs o).length c).ownBlock) (h3 : (Value.slice A (zs o).length c).ownBlock = some g ∨ ((w.alloc (.cells #[.int .i64 tx] 3)).drew).heap.size ≤ g) :
      w'.cell? ⟨p, 5, none⟩ = some (.slice (some ⟨gW, 0, none⟩) n n) ∧ w'.cell? ⟨gW, o, none⟩ = some (.slice A (zs o).length c) ∧ w'.frozen? ⟨gW, o, none⟩ = false ∧
      Ts (w'.setCell ⟨gW, o, none⟩ (.slice (some ⟨g, 0, none⟩) ((zs o).length + 1) cap)) lo hi N p gW gP n (putAt vs o (.slice (some ⟨g, 0, none⟩) ((zs o).length + 1) cap)) (putL zs o (zs o ++ [tx])) ∧
      Same lo hi N gW gP w (w'.setCell ⟨gW, o, none⟩ (.slice (some ⟨g, 0, none⟩) ((zs o).length + 1) cap)) := by
  rw [← hv] at h2 h3 ⊢
  have e1 : ((w.alloc (.cells #[.int .i64 tx] 3)).drew).heap.size = w.heap.size + 1 := by simp
  have e2 : ∀ b, b < w.heap.size → ((w.alloc (.cells #[.int .i64 tx] 3)).drew).heap[b]? = w.heap[b]? := fun b hb => Below.heap_alloc w _ b hb
  refine ts_store (l := zs o ++ [tx]) hl hts ho h2.os h2.tape h2.output ?_ ?_ ?_ ?_
  · have := h2.size; omega
  · intro b hb hne
    rw [h2.block b (by omega) (fun h => hne h.symm)]
    exact e2 b hb
  · simpa using h1
  · intro b hb
    simp only [Value.ownBlock, Option.some.injEq] at hb
    subst hb
    rcases h3 with h | h
    · exact Or.inl h
    · right; simp at h ⊢; omega

set_option maxHeartbeats 1000000 in
theorem await29 (lo hi N p gW gP n : Nat) (vs : Nat → Value) (zs : Nat → List Int) (tx : Int) (o : Nat) (w : World) (hl : Lie lo hi N p gW gP) (hts : Ts w lo hi N p gW gP n vs zs) (ho : o < n) (_hn : n ≤ 1048576) (hb : (zs o).length ≤ 1048576) :
    Calls Try.prog 29 #[.pointer (some ⟨p, 0, none⟩), .int .i64 tx, .int .i64 o] w fun e w' => e = .returned (.tuple #[]) ∧ (∃ vs', Ts w' lo hi N p gW gP n vs' (putL zs o (zs o ++ [tx]))) ∧ Same lo hi N gW gP w w' := by
  obtain ⟨i3, hi3, hz0, hz1, hz2⟩ := info_parts info3
  have c5 := hts.c5
  obtain ⟨A, c, hv, _⟩ := own_cells (hts.jag.row o ho)
  have hro : w.cell? ⟨gW, o, none⟩ = some (.slice A (zs o).length c) := by rw [hts.jag.rowAt ho, hv]
  have hown : ((w.alloc (.cells #[.int .i64 tx] 3)).drew).ownsRow lo 3 1 (.slice A (zs o).length c) (zs o).length ((zs o).map (Value.int .i64)) := by
    have := (hts.jag.row o ho).alloc (.cells #[.int .i64 tx] 3)
    rw [hv] at this
    exact this
  have hc1 : ((w.alloc (.cells #[.int .i64 tx] 3)).drew).cell? ⟨w.heap.size, 0, none⟩ = some (.int .i64 tx) := by simp
  have hlo : lo ≤ ((w.alloc (.cells #[.int .i64 tx] 3)).drew).heap.size := by have := hl.h2; have := hl.h3; have := hl.h4; have := hl.h5; have := hts.size; simp; omega
  have h63 : (zs o).length + 1 ≤ maxLen := by unfold maxLen; omega
  have h48 : ((zs o).length + 1) * 8 ≤ 140737488355328 := by omega
  have hgW : gW < w.heap.size := hts.jag.outer.lt
  have hp : p < w.heap.size := World.block_lt_of_cell? w _ c5
  have key : ∀ g cap w', w'.ownsRow lo 3 1 (.slice (some ⟨g, 0, none⟩) ((zs o).length + 1) cap) ((zs o).length + 1) ((zs o).map (Value.int .i64) ++ [.int .i64 tx]) → ((w.alloc (.cells #[.int .i64 tx] 3)).drew).grownBy w' (Value.slice A (zs o).length c).ownBlock → ((Value.slice A (zs o).length c).ownBlock = some g ∨ ((w.alloc (.cells #[.int .i64 tx] 3)).drew).heap.size ≤ g) →
      w'.cell? ⟨p, 5, none⟩ = some (.slice (some ⟨gW, 0, none⟩) n n) ∧ w'.cell? ⟨gW, o, none⟩ = some (.slice A (zs o).length c) ∧ w'.frozen? ⟨gW, o, none⟩ = false ∧
      Ts (w'.setCell ⟨gW, o, none⟩ (.slice (some ⟨g, 0, none⟩) ((zs o).length + 1) cap)) lo hi N p gW gP n (putAt vs o (.slice (some ⟨g, 0, none⟩) ((zs o).length + 1) cap)) (putL zs o (zs o ++ [tx])) ∧
      Same lo hi N gW gP w (w'.setCell ⟨gW, o, none⟩ (.slice (some ⟨g, 0, none⟩) ((zs o).length + 1) cap)) := by
    intro g cap w' ho1 hg1 hf1
    exact await_key hl hts ho hv ho1 hg1 hf1
  clear hts
  go_enter Try.func29, Try.ntmps29
  go_wp2
  go_region_law (refine step_append_mine rfl (.tmp 17) (.tmp 19) 25 rfl lo 3 i3 (.int .i64 0) 8 Try.underlying25 hi3 hz0 hz1 hz2 rfl (.slice A (zs o).length c) (zs o).length _ (by simp [Act.eval]) hown ⟨w.heap.size, 0, none⟩ 1 (.int .i64 tx) (by simp [Act.eval]) hc1 rfl h63 h48 hlo ?_; intro g cap w1 ho1 hg1 hf1; obtain ⟨k1, k2, k3, k4, k5⟩ := key g cap w1 ho1 hg1 hf1; clear ho1 hg1 hf1 key)
  all_goals go_wp2
  all_goals go_end0
  all_goals exact ⟨rfl, ⟨_, k4⟩, k5⟩
end Go.Proofs.Qxb6616109a
