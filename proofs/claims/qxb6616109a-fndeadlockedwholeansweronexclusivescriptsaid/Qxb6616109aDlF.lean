import Derived.Test.Qxb6616109aBase
import Derived.Deep.RegionLaw
import Derived.Deep.RegionLawGrows
import Derived.Below
namespace Go.Proofs.Qxb6616109a
open Go.RowKit Go.Deep Go.Joins

/-- append of one element (of sz cells) onto a row of the call's own: the row stays in its block, or goes into a new one. -/
theorem run_append_row {P : Program} (w : World) (lo : Nat) (t ty e : TypeId) (i : TypeInfo) (z : Value) (sz bytes : Nat) (ht : P.underlying t = some (.slice e)) (hi : P.info? e = some i) (hz : i.zero = some z)
    (hsize : i.size = sz) (hby : i.bytes = bytes) (hzs : z.cells.size = sz) (hsz : 0 < sz)
    (v : Value) (n : Nat) (xs : List Value) (hown : w.ownsRow lo e sz v n xs) (ad : Addr) (c : Nat) (news : List Value) (hl : news.length = sz) (hnews : ∀ j u, news[j]? = some u → w.cell? (ad.add j) = some u) (h1 : ∀ u ∈ news, u.oneCell' = true)
    (h63 : n + 1 ≤ maxLen) (hbytes : (n + 1) * bytes ≤ 140737488355328) (hlo : lo ≤ w.heap.size) :
    ∃ g cap w', (Builtin.append_ #[t, t] ty #[v, .slice (some ad) 1 c]).run P w = .ok (.slice (some ⟨g, 0, none⟩) (n + 1) cap) w' ∧ w'.ownsRow lo e sz (.slice (some ⟨g, 0, none⟩) (n + 1) cap) (n + 1) (xs ++ news) ∧
      w.grownBy w' v.ownBlock ∧ (v.ownBlock = some g ∨ w.heap.size ≤ g) := by
  have hl1 : news.length = 1 * sz := by omega
  obtain ⟨v', w', hrun, hown', hgr, _⟩ := run_append_own (P := P) w lo t ty e i z sz bytes ht hi hz hsize hby hzs hsz v n xs hown ad 1 c news hl1 hnews h1 h63 hbytes hlo
  obtain ⟨g, cap, rfl⟩ := ownsRow_form hown' (by omega)
  refine ⟨g, cap, w', hrun, hown', hgr, ?_⟩
  rcases ownsRow_forms hown with ⟨rfl, h0⟩ | ⟨g0, cap0, rfl⟩
  · subst h0
    have hx : xs = [] := List.eq_nil_of_length_eq_zero (by simpa using hown.1)
    subst hx
    obtain ⟨v2, w2, hrun2, hown2, _, _⟩ := run_append_own (P := P) w w.heap.size t ty e i z sz bytes ht hi hz hsize hby hzs hsz (.slice none 0 0) 0 [] (World.ownsRow_nil _ _ _ _) ad 1 c news hl1 hnews h1 h63 hbytes (Nat.le_refl _)
    rw [hrun] at hrun2
    simp only [Result.ok.injEq] at hrun2
    obtain ⟨rfl, rfl⟩ := hrun2
    exact Or.inr (hown2.lt g rfl).1
  · by_cases hroom : n + 1 ≤ cap0
    · obtain ⟨_, hfm⟩ := hown
      rcases hfm with ⟨hbad, _⟩ | ⟨g', cap', cur, hv, _, hg, _, _, hcs, _⟩
      · cases hbad
      · simp only [Value.slice.injEq, Option.some.injEq, Addr.mk.injEq] at hv
        obtain ⟨⟨rfl, _, _⟩, _, rfl⟩ := hv
        have hle : (n + 1) * sz ≤ cap0 * sz := Nat.mul_le_mul_right sz hroom
        rw [Nat.add_mul] at hle
        have hcell : ∀ j, j < news.length → w.cell? ⟨g0, 0 + n * i.size + j, none⟩ = cur[n * sz + j]? := fun j _ => by
          rw [Joins.cell_of_block hg, hsize, Nat.zero_add]
        have hr := run_append_room_cells (P := P) w t ty e i ht hi g0 0 n cap0 ad 1 c news (by rw [hl, hsize]; omega) hnews h1 hroom
          (fun j hj => by rw [hcell j hj, Array.getElem?_eq_getElem (by omega)]; rfl)
          (fun j hj => by unfold World.frozen?; simp only [hg]; simp)
        rw [hrun] at hr
        simp only [Result.ok.injEq, Value.slice.injEq, Option.some.injEq, Addr.mk.injEq] at hr
        left
        simp [Value.ownBlock, hr.1.1.1]
    · have hlen : xs.length = n * sz := hown.1
      obtain ⟨v2, w2, hrun2, hown2, _⟩ := run_append_arg_grows (P := P) w t ty e i z sz bytes ht hi hz hsize hby hzs hsz ⟨g0, 0, none⟩ n cap0 xs hlen (hown.cells (g := g0) rfl) ad 1 c news hl1 hnews (by omega) h63 hbytes
      rw [hrun] at hrun2
      simp only [Result.ok.injEq] at hrun2
      obtain ⟨rfl, rfl⟩ := hrun2
      exact Or.inr (hown2.lt g rfl).1

theorem step_append_row {P : Program} {ops : Array Oper} {o : Oper} {a : Act} {w : World} {K : Act → World → Prop} {Q : Exit → Act → World → Prop} {E : Prop}
    (hg : o.guard = none) (s x : Operand) (t : TypeId) (hop : o.op = Op.call { callee := Callee.builtin Builtin.append, args := #[s, x], argTypes := #[t, t] })
    (lo : Nat) (e : TypeId) (i : TypeInfo) (z : Value) (sz bytes : Nat) (ht : P.underlying t = some (.slice e)) (hi : P.info? e = some i) (hz : i.zero = some z)
    (hsize : i.size = sz) (hby : i.bytes = bytes) (hzs : z.cells.size = sz) (hsz : 0 < sz)
    (v : Value) (n : Nat) (xs : List Value) (hs : a.eval s = v) (hown : w.ownsRow lo e sz v n xs) (ad : Addr) (c : Nat) (news : List Value) (hx : a.eval x = .slice (some ad) 1 c) (hl : news.length = sz) (hnews : ∀ j u, news[j]? = some u → w.cell? (ad.add j) = some u) (h1 : ∀ u ∈ news, u.oneCell' = true)
    (h63 : n + 1 ≤ maxLen) (hbytes : (n + 1) * bytes ≤ 140737488355328) (hlo : lo ≤ w.heap.size)
    (hK : ∀ g cap w', w'.ownsRow lo e sz (.slice (some ⟨g, 0, none⟩) (n + 1) cap) (n + 1) (xs ++ news) → w.grownBy w' v.ownBlock → (v.ownBlock = some g ∨ w.heap.size ≤ g) → K (a.put o.dst (.slice (some ⟨g, 0, none⟩) (n + 1) cap)) w') :
    if Region.wanted o (yielded ops a.tmps) = true then Oper.wp P o a w K Q else E := by
  have hw : Region.wanted o (yielded ops a.tmps) = true := by simp [Region.wanted, hg]
  rw [if_pos hw]
  obtain ⟨g, cap, w', hrun, r1, r2, r3⟩ := run_append_row (P := P) w lo t o.type e i z sz bytes ht hi hz hsize hby hzs hsz v n xs hown ad c news hl hnews h1 h63 hbytes hlo
  unfold Oper.wp
  simp [execOp, hop, resolve, invoke, builtin, hs, hx, hrun, Result.andThen]
  exact hK g cap w' r1 r2 r3

/-- A row cut to nothing. -/
theorem ownsRow_cut {w : World} {lo e sz n : Nat} {A : Option Addr} {l c : Nat} {xs : List Value} (h : w.ownsRow lo e sz (.slice A l c) n xs) : w.ownsRow lo e sz (.slice A 0 c) 0 [] := by
  refine ⟨by simp, ?_⟩
  rcases h.2 with ⟨hv, _⟩ | ⟨g, cap, cur, hv, h1, h2, h3, h4, h5, h6⟩
  · simp only [Value.slice.injEq] at hv
    left
    rw [hv.1, hv.2.2]
    exact ⟨rfl, rfl⟩
  · simp only [Value.slice.injEq] at hv
    obtain ⟨rfl, rfl, rfl⟩ := hv
    exact .inr ⟨g, c, cur, rfl, h1, h2, by omega, h4, h5, by simp⟩

/-! ### THE FAMILY OF ROWS -/
/-- The element type of a row of kind k, and its cells. -/
def ety (k : Nat) : TypeId := if k = 0 then 60 else 3
def esz (k : Nat) : Nat := if k = 0 then 2 else 1

/-- Rows of four kinds, each in a block of its own from N on. -/
structure Fam (w : World) (N : Nat) (lim : Nat → Nat) (V : Nat → Nat → Value) (X : Nat → Nat → List Value) : Prop where
  row : ∀ k i, i < lim k → w.ownsRow N (ety k) (esz k) (V k i) ((X k i).length / esz k) (X k i)
  ap : ∀ k i k' i' b, i < lim k → i' < lim k' → (V k i).ownBlock = some b → (V k' i').ownBlock = some b → k = k' ∧ i = i'
  fix : ∀ i, X 4 i = [V 3 i]

def put2 {α : Type} (f : Nat → Nat → α) (k i : Nat) (v : α) : Nat → Nat → α := fun k' i' => if k' = k ∧ i' = i then v else f k' i'
theorem put2_same {α : Type} (f : Nat → Nat → α) (k i : Nat) (v : α) : put2 f k i v k i = v := by simp [put2]
theorem put2_other {α : Type} (f : Nat → Nat → α) {k i k' i' : Nat} (v : α) (h : ¬ (k' = k ∧ i' = i)) : put2 f k i v k' i' = f k' i' := if_neg h

theorem ownsRow_of_block {w w1 : World} {lo e sz n : Nat} {v : Value} {xs : List Value} (h : w.ownsRow lo e sz v n xs) (hb : ∀ b, v.ownBlock = some b → w1.heap[b]? = w.heap[b]?) : w1.ownsRow lo e sz v n xs := by
  refine ⟨h.1, ?_⟩
  rcases h.2 with h0 | ⟨g', cap, cur, hv', hb', hg', r'⟩
  · exact .inl h0
  · exact .inr ⟨g', cap, cur, hv', hb', by rw [hb g' (by rw [hv']; rfl)]; exact hg', r'⟩

theorem Fam.blk {w : World} {N : Nat} {lim : Nat → Nat} {V : Nat → Nat → Value} {X : Nat → Nat → List Value} (h : Fam w N lim V X) {k i b : Nat} (hi : i < lim k) (hb : (V k i).ownBlock = some b) : N ≤ b ∧ b < w.heap.size :=
  ⟨((h.row k i hi).lt b hb).1, ((h.row k i hi).lt b hb).2⟩

/-- All the rows' blocks lie as they lay. -/
theorem Fam.keep {w w1 : World} {N : Nat} {lim : Nat → Nat} {V : Nat → Nat → Value} {X : Nat → Nat → List Value} (h : Fam w N lim V X) (hb : ∀ b, N ≤ b → b < w.heap.size → w1.heap[b]? = w.heap[b]?) : Fam w1 N lim V X :=
  ⟨fun k i hi => ownsRow_of_block (h.row k i hi) (fun b hv => hb b (h.blk hi hv).1 (h.blk hi hv).2), h.ap, h.fix⟩

/-- One row is turned. -/
theorem Fam.put {w w1 : World} {N : Nat} {lim : Nat → Nat} {V : Nat → Nat → Value} {X : Nat → Nat → List Value} (h : Fam w N lim V X) {k i : Nat} (hk : k < 3) (hi : i < lim k) {v : Value} {xs : List Value}
    (hrest : ∀ b, N ≤ b → b < w.heap.size → (V k i).ownBlock ≠ some b → w1.heap[b]? = w.heap[b]?)
    (hv : w1.ownsRow N (ety k) (esz k) v (xs.length / esz k) xs) (hfr : ∀ b, v.ownBlock = some b → (V k i).ownBlock = some b ∨ w.heap.size ≤ b) : Fam w1 N lim (put2 V k i v) (put2 X k i xs) := by
  refine ⟨?_, ?_, fun j => by rw [put2_other _ _ (by omega), put2_other _ _ (by omega)]; exact h.fix j⟩
  · intro k' i' hi'
    by_cases e : k' = k ∧ i' = i
    · obtain ⟨rfl, rfl⟩ := e
      rw [put2_same, put2_same]
      exact hv
    · rw [put2_other _ _ e, put2_other _ _ e]
      refine ownsRow_of_block (h.row k' i' hi') (fun b hb => hrest b (h.blk hi' hb).1 (h.blk hi' hb).2 (fun hb2 => e (h.ap k' i' k i b hi' hi hb hb2)))
  · intro k1 i1 k2 i2 b h1 h2 hb1 hb2
    by_cases e1 : k1 = k ∧ i1 = i
    · by_cases e2 : k2 = k ∧ i2 = i
      · exact ⟨by omega, by omega⟩
      · obtain ⟨rfl, rfl⟩ := e1
        rw [put2_same] at hb1
        rw [put2_other _ _ e2] at hb2
        rcases hfr b hb1 with hh | hh
        · exact h.ap _ _ _ _ b hi h2 hh hb2
        · have := (h.blk h2 hb2).2; omega
    · by_cases e2 : k2 = k ∧ i2 = i
      · obtain ⟨rfl, rfl⟩ := e2
        rw [put2_same] at hb2
        rw [put2_other _ _ e1] at hb1
        rcases hfr b hb2 with hh | hh
        · exact h.ap _ _ _ _ b h1 hi hb1 hh
        · have := (h.blk h1 hb1).2; omega
      · rw [put2_other _ _ e1] at hb1
        rw [put2_other _ _ e2] at hb2
        exact h.ap _ _ _ _ b h1 h2 hb1 hb2
end Go.Proofs.Qxb6616109a
