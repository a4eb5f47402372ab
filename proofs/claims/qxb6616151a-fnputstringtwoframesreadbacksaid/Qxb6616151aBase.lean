import Derived.Test.Qxb6616151aRows
import Derived.WalkKit
import Derived.ProofKit
import Derived.OpenShut
import Derived.WalkSpells
import Derived.WalkLawsBesides
import Derived.Deep.OwnRows
import Derived.Deep.Slices
import Derived.Deep.LoopGhost
import Derived.Lib.SmallJoins
import Derived.BigQuiet
import Derived.Deep.QuietTactic
import Derived.Deep.AppendSrc
namespace Go.Proofs.Qxb6616151a
open Go.RowKit Go.Deep Go.Joins

theorem info5 : (Try.prog.info? 5).map (fun i => (i.zero, i.size, i.bytes)) = some (some (.int .u8 0), 1, 1) := by kernel_rfl
theorem size5 : (Try.prog.info? 5).map (·.size) = some 1 := by kernel_rfl

/-- The call came back with a bool; where it is true, p. -/
def GaveOk (e : Ending) (p : Prop) : Prop := ∃ b, e = .returned (.bool b) ∧ (b = true → p)
theorem gaveNo (p : Prop) : GaveOk (.returned (.bool false)) p := ⟨false, rfl, fun h => by cases h⟩
theorem gaveYes {p : Prop} (h : p) : GaveOk (.returned (.bool true)) p := ⟨true, rfl, fun _ => h⟩

/-- The slice at A has n cells of the values f. -/
def Cells (w : World) (A : Option Addr) (n : Nat) (f : Nat → Value) : Prop :=
  ∀ i, i < n → ∃ b off, A = some ⟨b, off, none⟩ ∧ w.cell? ⟨b, off + i, none⟩ = some (f i)

theorem Cells.lit {w : World} {A : Option Addr} {n : Nat} {f : Nat → Value} (h : Cells w A n f) (hn : 0 < n) :
    ∃ b off, A = some ⟨b, off, none⟩ ∧ b < w.heap.size ∧ ∀ i, i < n → w.cell? ⟨b, off + i, none⟩ = some (f i) := by
  obtain ⟨b, off, rfl, h0⟩ := h 0 hn
  refine ⟨b, off, rfl, World.block_lt_of_cell? w _ h0, fun i hi => ?_⟩
  obtain ⟨b', off', e, hc⟩ := h i hi
  simp only [Option.some.injEq, Addr.mk.injEq] at e
  obtain ⟨rfl, rfl, _⟩ := e
  exact hc

theorem Cells.below {w w' : World} {B : Nat} {A : Option Addr} {n : Nat} {f : Nat → Value} (h : Cells w A n f) (hb : Below B w w') (hB : w.heap.size ≤ B) : Cells w' A n f := by
  intro i hi
  obtain ⟨b, off, rfl, hc⟩ := h i hi
  exact ⟨b, off, rfl, (hb.cell (by have := World.block_lt_of_cell? w _ hc; simp at this ⊢; omega)).trans hc⟩

/-- A list of bytes as cells. -/
def u8s (l : List Int) : List Value := l.map (Value.int .u8)
theorem u8s_length (l : List Int) : (u8s l).length = l.length := by simp [u8s]
theorem u8s_append (a b : List Int) : u8s (a ++ b) = u8s a ++ u8s b := by simp [u8s]

/-- v is a slice of the call's own (blocks from lo on) that holds the bytes l. -/
def Owns (w : World) (lo : Nat) (v : Value) (l : List Int) : Prop := w.ownsRow lo 5 1 v l.length (u8s l)

theorem Owns.cells {w : World} {lo : Nat} {v : Value} {l : List Int} (h : Owns w lo v l) :
    ∃ A c, v = .slice A l.length c ∧ l.length ≤ c ∧ c ≤ maxLen ∧ (A = none → l.length = 0 ∧ c = 0) ∧ Cells w A l.length (fun i => .int .u8 (l.getD i 0)) := by
  rcases h.2 with ⟨rfl, h0⟩ | ⟨g, cap, cur, rfl, _, _, h1, h2, _⟩
  · exact ⟨none, 0, by rw [h0], by omega, by unfold maxLen; omega, fun _ => ⟨h0, rfl⟩, fun i hi => by omega⟩
  · refine ⟨_, cap, rfl, h1, h2, (fun h => by cases h), fun i hi => ⟨g, 0, rfl, ?_⟩⟩
    rw [Nat.zero_add, World.ownsRow.cellAt h i (by omega)]
    simp [u8s, List.getElem?_eq_getElem hi]

/-- From w to w' nothing that was there has turned but v's own block; v' lies there or in a new one. -/
structure Grew (w w' : World) (v v' : Value) : Prop where
  grow : w.grownBy w' v.ownBlock
  own : ∀ b, v'.ownBlock = some b → v.ownBlock = some b ∨ w.heap.size ≤ b

theorem Grew.trans {w w1 w2 : World} {v v1 v2 : Value} (h : Grew w w1 v v1) (k : Grew w1 w2 v1 v2) : Grew w w2 v v2 := by
  refine ⟨⟨k.grow.os.trans h.grow.os, k.grow.tape.trans h.grow.tape, k.grow.output.trans h.grow.output, Nat.le_trans h.grow.size k.grow.size, fun b hb hne => ?_⟩, fun b hb => ?_⟩
  · rw [k.grow.block b (Nat.lt_of_lt_of_le hb h.grow.size) (fun e => ?_), h.grow.block b hb hne]
    rcases h.own b e.symm with h1 | h1
    · exact hne h1.symm
    · omega
  · rcases k.own b hb with h1 | h1
    · exact h.own b h1
    · exact Or.inr (Nat.le_trans h.grow.size h1)

theorem Grew.alloc {w w' : World} {v v' : Value} {o : Obj} (h : Grew (w.alloc o) w' v v') : Grew w w' v v' := by
  refine ⟨⟨h.grow.os, h.grow.tape, h.grow.output, ?_, fun b hb hne => ?_⟩, fun b hb => ?_⟩
  · have := h.grow.size; rw [nblk_alloc] at this; omega
  · rw [h.grow.block b (by rw [nblk_alloc]; omega) hne, blk_alloc_lt _ _ _ hb]
  · rcases h.own b hb with h1 | h1
    · exact Or.inl h1
    · right; rw [nblk_alloc] at h1; omega

/-- append of one byte onto a row of the call's own. -/
theorem run_append1 {P : Program} (w : World) (lo : Nat) (t ty e : TypeId) (i : TypeInfo) (z : Value) (bytes : Nat) (ht : P.underlying t = some (.slice e)) (hi : P.info? e = some i) (hz : i.zero = some z)
    (hsize : i.size = 1) (hby : i.bytes = bytes) (hzs : z.cells.size = 1)
    (v : Value) (n : Nat) (xs : List Value) (hown : w.ownsRow lo e 1 v n xs) (ad : Addr) (c : Nat) (u : Value) (hc : w.cell? ad = some u) (h1 : u.oneCell' = true)
    (h63 : n + 1 ≤ maxLen) (hbytes : (n + 1) * bytes ≤ 140737488355328) (hlo : lo ≤ w.heap.size) :
    ∃ g cap w', (Builtin.append_ #[t, t] ty #[v, .slice (some ad) 1 c]).run P w = .ok (.slice (some ⟨g, 0, none⟩) (n + 1) cap) w' ∧ w'.ownsRow lo e 1 (.slice (some ⟨g, 0, none⟩) (n + 1) cap) (n + 1) (xs ++ [u]) ∧
      Grew w w' v (.slice (some ⟨g, 0, none⟩) (n + 1) cap) := by
  have hnews : ∀ j u', [u][j]? = some u' → w.cell? (ad.add j) = some u' := by
    intro j u' hj
    match j, hj with
    | 0, hj => simp at hj; subst hj; simpa [Addr.add] using hc
  have h1' : ∀ u' ∈ [u], u'.oneCell' = true := by intro u' hu; simp at hu; subst hu; exact h1
  obtain ⟨v', w', hrun, hown', hgr, _⟩ := run_append_own (P := P) w lo t ty e i z 1 bytes ht hi hz hsize hby hzs (by decide) v n xs hown ad 1 c [u] rfl hnews h1' h63 hbytes hlo
  obtain ⟨g, cap, rfl⟩ := ownsRow_form hown' (by omega)
  refine ⟨g, cap, w', hrun, hown', ⟨hgr, fun b hb => ?_⟩⟩
  simp only [Value.ownBlock, Option.some.injEq] at hb
  subst hb
  rcases ownsRow_forms hown with ⟨rfl, h0⟩ | ⟨g0, cap0, rfl⟩
  · subst h0
    have hx : xs = [] := List.eq_nil_of_length_eq_zero (by simpa using hown.1)
    subst hx
    obtain ⟨v2, w2, hrun2, hown2, _, _⟩ := run_append_own (P := P) w w.heap.size t ty e i z 1 bytes ht hi hz hsize hby hzs (by decide) (.slice none 0 0) 0 [] (World.ownsRow_nil _ _ _ _) ad 1 c [u] rfl hnews h1' h63 hbytes (Nat.le_refl _)
    rw [hrun] at hrun2
    simp only [Result.ok.injEq] at hrun2
    obtain ⟨rfl, rfl⟩ := hrun2
    exact Or.inr (hown2.lt g rfl).1
  · by_cases hroom : n + 1 ≤ cap0
    · obtain ⟨_, hfm⟩ := hown
      rcases hfm with ⟨hbad, _⟩ | ⟨g', cap', cur, hv, _, hg, _, _, hcs, _⟩
      · cases hbad
      · simp only [Value.slice.injEq, Option.some.injEq, Addr.mk.injEq] at hv
        obtain ⟨⟨rfl, _, _⟩, _, rfl⟩ := hv
        have hr := run_append_room (P := P) w t ty e i ht hi g0 n cap0 cur hg ad 1 c [u] (by simp [hsize]) hnews h1' hroom (by simp [hsize]; omega)
        rw [hrun] at hr
        simp only [Result.ok.injEq, Value.slice.injEq, Option.some.injEq, Addr.mk.injEq] at hr
        left
        simp [Value.ownBlock, hr.1.1.1]
    · have hlen : xs.length = n * 1 := hown.1
      obtain ⟨v2, w2, hrun2, hown2, _⟩ := run_append_arg_grows (P := P) w t ty e i z 1 bytes ht hi hz hsize hby hzs (by decide) ⟨g0, 0, none⟩ n cap0 xs hlen (hown.cells (g := g0) rfl) ad 1 c [u] rfl hnews (by omega) h63 hbytes
      rw [hrun] at hrun2
      simp only [Result.ok.injEq] at hrun2
      obtain ⟨rfl, rfl⟩ := hrun2
      exact Or.inr (hown2.lt g rfl).1

theorem wpList_append1 {P : Program} (w : World) {ops : Array Oper} {rest : List Oper} {o : Oper} {a : Act} {Q : Exit → Act → World → Prop} (hgd : o.guard = none) (s x : Operand) (t : TypeId)
    (ho : o.op = .call { callee := .builtin .append, args := #[s, x], argTypes := #[t, t] })
    (lo : Nat) (e : TypeId) (i : TypeInfo) (z : Value) (bytes : Nat) (ht : P.underlying t = some (.slice e)) (hi : P.info? e = some i) (hz : i.zero = some z)
    (hsize : i.size = 1) (hby : i.bytes = bytes) (hzs : z.cells.size = 1)
    (v : Value) (n : Nat) (xs : List Value) (hs : a.eval s = v) (hown : w.ownsRow lo e 1 v n xs) (ad : Addr) (c : Nat) (u : Value) (hx : a.eval x = .slice (some ad) 1 c) (hc : w.cell? ad = some u) (h1 : u.oneCell' = true)
    (h63 : n + 1 ≤ maxLen) (hbytes : (n + 1) * bytes ≤ 140737488355328) (hlo : lo ≤ w.heap.size)
    (h : ∀ g cap w', w'.ownsRow lo e 1 (.slice (some ⟨g, 0, none⟩) (n + 1) cap) (n + 1) (xs ++ [u]) → Grew w w' v (.slice (some ⟨g, 0, none⟩) (n + 1) cap) → wpList P ops Q rest (a.put o.dst (.slice (some ⟨g, 0, none⟩) (n + 1) cap)) w') : wpList P ops Q (o :: rest) a w := by
  refine wpList_plain hgd fun K hK => ?_
  obtain ⟨g, cap, w', hr, h2, h3⟩ := run_append1 (P := P) w lo t o.type e i z bytes ht hi hz hsize hby hzs v n xs hown ad c u hc h1 h63 hbytes hlo
  unfold Oper.wp
  simp [execOp, ho, resolve, invoke, builtin, hs, hx, hr, Result.andThen]
  exact hK _ _ (h g cap w' h2 h3)

end Go.Proofs.Qxb6616151a
