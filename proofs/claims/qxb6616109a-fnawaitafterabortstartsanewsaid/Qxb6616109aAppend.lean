import Derived.Test.Qxb6616109aBase
import Derived.Deep.RegionLaw
import Derived.Deep.RegionLawGrows
namespace Go.Proofs.Qxb6616109a
open Go.RowKit Go.Deep Go.Joins

/-- append of one element onto a row of the call's own: the row stays in its block, or goes into a new one. -/
theorem run_append_mine {P : Program} (w : World) (lo : Nat) (t ty e : TypeId) (i : TypeInfo) (z : Value) (bytes : Nat) (ht : P.underlying t = some (.slice e)) (hi : P.info? e = some i) (hz : i.zero = some z)
    (hsize : i.size = 1) (hby : i.bytes = bytes) (hzs : z.cells.size = 1)
    (v : Value) (n : Nat) (xs : List Value) (hown : w.ownsRow lo e 1 v n xs) (ad : Addr) (c : Nat) (u : Value) (hc : w.cell? ad = some u) (h1 : u.oneCell' = true)
    (h63 : n + 1 ≤ maxLen) (hbytes : (n + 1) * bytes ≤ 140737488355328) (hlo : lo ≤ w.heap.size) :
    ∃ g cap w', (Builtin.append_ #[t, t] ty #[v, .slice (some ad) 1 c]).run P w = .ok (.slice (some ⟨g, 0, none⟩) (n + 1) cap) w' ∧ w'.ownsRow lo e 1 (.slice (some ⟨g, 0, none⟩) (n + 1) cap) (n + 1) (xs ++ [u]) ∧
      w.grownBy w' v.ownBlock ∧ (v.ownBlock = some g ∨ w.heap.size ≤ g) := by
  have hnews : ∀ j u', [u][j]? = some u' → w.cell? (ad.add j) = some u' := by
    intro j u' hj
    match j, hj with
    | 0, hj => simp at hj; subst hj; simpa [Addr.add] using hc
  have h1' : ∀ u' ∈ [u], u'.oneCell' = true := by intro u' hu; simp at hu; subst hu; exact h1
  obtain ⟨v', w', hrun, hown', hgr, _⟩ := run_append_own (P := P) w lo t ty e i z 1 bytes ht hi hz hsize hby hzs (by decide) v n xs hown ad 1 c [u] rfl hnews h1' h63 hbytes hlo
  obtain ⟨g, cap, rfl⟩ := ownsRow_form hown' (by omega)
  refine ⟨g, cap, w', hrun, hown', hgr, ?_⟩
  rcases ownsRow_forms hown with ⟨rfl, h0⟩ | ⟨g0, cap0, rfl⟩
  · subst h0
    have hx : xs = [] := List.eq_nil_of_length_eq_zero (by simpa using hown.1)
    subst hx
    obtain ⟨v2, w2, hrun2, hown2, _, _⟩ := run_append_own (P := P) w w.heap.size t ty e i z 1 bytes ht hi hz hsize hby hzs (by decide) (.slice none 0 0) 0 [] (World.ownsRow_nil _ _ _ _) ad 1 c [u] rfl hnews h1' h63 hbytes (Nat.le_refl _)
    rw [hrun] at hrun2
    simp only [Result.ok.injEq] at hrun2
    obtain ⟨rfl, rfl⟩ := hrun2
    exact Or.inr (hown2.lt g rfl).1
  · by_cases hroom : n + 1 ≤ cap0
    · obtain ⟨_, hfm⟩ := hown
      rcases hfm with ⟨hbad, _⟩ | ⟨g', cap', cur, hv, _, hg, _, _, hcs, _⟩
      · cases hbad
      · simp only [Value.slice.injEq, Option.some.injEq, Addr.mk.injEq] at hv
        obtain ⟨⟨rfl, _, _⟩, _, rfl⟩ := hv
        have hr := run_append_room (P := P) w t ty e i ht hi g0 n cap0 cur hg ad 1 c [u] (by simp [hsize]) hnews h1' hroom (by simp [hsize]; omega)
        rw [hrun] at hr
        simp only [Result.ok.injEq, Value.slice.injEq, Option.some.injEq, Addr.mk.injEq] at hr
        left
        simp [Value.ownBlock, hr.1.1.1]
    · have hlen : xs.length = n * 1 := hown.1
      obtain ⟨v2, w2, hrun2, hown2, _⟩ := run_append_arg_grows (P := P) w t ty e i z 1 bytes ht hi hz hsize hby hzs (by decide) ⟨g0, 0, none⟩ n cap0 xs hlen (hown.cells (g := g0) rfl) ad 1 c [u] rfl hnews (by omega) h63 hbytes
      rw [hrun] at hrun2
      simp only [Result.ok.injEq] at hrun2
      obtain ⟨rfl, rfl⟩ := hrun2
      exact Or.inr (hown2.lt g rfl).1

theorem step_append_mine {P : Program} {ops : Array Oper} {o : Oper} {a : Act} {w : World} {K : Act → World → Prop} {Q : Exit → Act → World → Prop} {E : Prop}
    (hg : o.guard = none) (s x : Operand) (t : TypeId) (hop : o.op = Op.call { callee := Callee.builtin Builtin.append, args := #[s, x], argTypes := #[t, t] })
    (lo : Nat) (e : TypeId) (i : TypeInfo) (z : Value) (bytes : Nat) (ht : P.underlying t = some (.slice e)) (hi : P.info? e = some i) (hz : i.zero = some z)
    (hsize : i.size = 1) (hby : i.bytes = bytes) (hzs : z.cells.size = 1)
    (v : Value) (n : Nat) (xs : List Value) (hs : a.eval s = v) (hown : w.ownsRow lo e 1 v n xs) (ad : Addr) (c : Nat) (u : Value) (hx : a.eval x = .slice (some ad) 1 c) (hc : w.cell? ad = some u) (h1 : u.oneCell' = true)
    (h63 : n + 1 ≤ maxLen) (hbytes : (n + 1) * bytes ≤ 140737488355328) (hlo : lo ≤ w.heap.size)
    (hK : ∀ g cap w', w'.ownsRow lo e 1 (.slice (some ⟨g, 0, none⟩) (n + 1) cap) (n + 1) (xs ++ [u]) → w.grownBy w' v.ownBlock → (v.ownBlock = some g ∨ w.heap.size ≤ g) → K (a.put o.dst (.slice (some ⟨g, 0, none⟩) (n + 1) cap)) w') :
    if Region.wanted o (yielded ops a.tmps) = true then Oper.wp P o a w K Q else E := by
  have hw : Region.wanted o (yielded ops a.tmps) = true := by simp [Region.wanted, hg]
  rw [if_pos hw]
  obtain ⟨g, cap, w', hrun, r1, r2, r3⟩ := run_append_mine (P := P) w lo t o.type e i z bytes ht hi hz hsize hby hzs v n xs hown ad c u hc h1 h63 hbytes hlo
  unfold Oper.wp
  simp [execOp, hop, resolve, invoke, builtin, hs, hx, hrun, Result.andThen]
  exact hK g cap w' r1 r2 r3
end Go.Proofs.Qxb6616109a
