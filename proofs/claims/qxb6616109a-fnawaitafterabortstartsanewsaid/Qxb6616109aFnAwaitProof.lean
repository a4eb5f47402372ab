import Derived.Test.Qxb6616109aWalk5
import Derived.ShutString
import Derived.ChangeOld
import Derived.Below
import Derived.Deep.Matrix
import Derived.Deep.Grids
namespace Go.Proofs.Qxb6616109a.fnAwait
open Go.ChangeShapes Go.WideShapes Go.ChangeAt Go.RowKit Go.Deep Go.Joins
set_option linter.unusedVariables false

theorem own : ownKnob Try.prog.godebug = none := by kernel_rfl
theorem laidOut : laidOutB Try.prog = true := by kernel_rfl
theorem cells25 : Try.prog.cellsOf 25 = 1 := by kernel_rfl
theorem cells3 : Try.prog.cellsOf 3 = 1 := by kernel_rfl
theorem cells4 : Try.prog.cellsOf 4 = 1 := by kernel_rfl

/-- Cells told by 'Addr.add', as 'Cells' has them. -/
theorem cells_of_add {w : World} {a : Addr} {n : Nat} {f : Nat → Value} (h : ∀ i, i < n → w.cell? (a.add i) = some (f i)) : Cells w (some a) n f := by
  intro i hi
  obtain ⟨b, off, spot⟩ := a
  have hspot : spot = none := by simpa [Addr.add] using World.cell?_spot (h 0 (by omega))
  subst hspot
  exact ⟨b, off, rfl, by rw [← Go.WideShapes.add_plain]; exact h i hi⟩

theorem cells_none {w : World} {f : Nat → Value} : Cells w none 0 f := fun i hi => by omega

set_option maxRecDepth 100000 in
theorem lifted (os : Os) (started : os.Started) (H : Type) (enc : TypeId × Value → H) :
    ReturnsInHanded {} Try.checked os 5 .any (Rows.fnAwaitAfterAbortStartsAnewSpec.pre6 enc Try.prog Try.f5 Rows.fnAwaitAfterAbortStartsAnewRow.domain false) (Rows.fnAwaitAfterAbortStartsAnewSpec.post enc Try.prog Try.f5 false true false false) := by
  refine returnsInHanded_of_change (C := Try.checked) own started (by kernel_rfl) Try.func5
    (ChangeSpec.witness6 (enc := enc) (C := Try.checked) false ⟨#[], #[.slice none 0 0, .slice none 0 0, .slice none 0 0, .slice none 0 0], []⟩ 8 (by kernel_rfl) (by kernel_rfl) (by kernel_rfl) (by kernel_rfl)) ?_
  intro W base args ds gs before hval0 hW hcnd _
  have hval : ∀ (j : Nat) t v, Try.f5.params[j]? = some t → args[j]? = some v → Value.okWide Try.prog W .any base t v := hval0
  have hW' := hW
  obtain ⟨p, q, hA0, hV, rfl, hfz, hnd⟩ := hW
  have hA : DataW.TrodAll enc Try.prog W 0 (fun _ => true) true Try.f5.params.toList args.toList ds p := hA0
  rw [Try.params5] at hA hval
  obtain ⟨v0, vs0, d0, ds0, p0, q0, hargs, rfl, rfl, h0, r0⟩ := trodAll_cons hA
  obtain ⟨v1, vs1, d1, ds1, p1, q1, rfl, rfl, rfl, h1, r1⟩ := trodAll_cons r0
  obtain ⟨v2, vs2, d2, ds2, p2, q2, rfl, rfl, rfl, h2, r2⟩ := trodAll_cons r1
  obtain ⟨v3, vs3, d3, ds3, p3, q3, rfl, rfl, rfl, h3, r3⟩ := trodAll_cons r2
  obtain ⟨rfl, rfl, rfl⟩ := trodAll_nil r3
  obtain rfl : args = #[v0, v1, v2, v3] := by cases args; simp_all
  obtain ⟨rfl, rfl⟩ := trodVars_none hV
  have k0 := h0
  have k1 := h1
  have k2 := h2
  have k3 := h3
  have lt0 : ∀ x ∈ p0, x.block < W.heap.size := by obtain ⟨m, hm⟩ := k0; exact DataW.trod_lt m _ _ _ hm
  have lt1 : ∀ x ∈ p1, x.block < W.heap.size := by obtain ⟨m, hm⟩ := k1; exact DataW.trod_lt m _ _ _ hm
  have lt2 : ∀ x ∈ p2, x.block < W.heap.size := by obtain ⟨m, hm⟩ := k2; exact DataW.trod_lt m _ _ _ hm
  have lt3 : ∀ x ∈ p3, x.block < W.heap.size := by obtain ⟨m, hm⟩ := k3; exact DataW.trod_lt m _ _ _ hm
  obtain ⟨A0, n0, c0, rfl⟩ := okWide_slice Try.underlying32 (hval 0 32 v0 rfl rfl)
  obtain ⟨A1, n1, c1, rfl⟩ := okWide_slice Try.underlying25 (hval 1 25 v1 rfl rfl)
  obtain ⟨A2, n2, c2, rfl⟩ := okWide_slice Try.underlying25 (hval 2 25 v2 rfl rfl)
  obtain ⟨A3, n3, c3, rfl⟩ := okWide_slice Try.underlying30 (hval 3 30 v3 rfl rfl)
  clear hA0 hval0 hA hval hcnd
  obtain ⟨AA, L, CC, zs, hm0, hAn, hL, hc0, hin⟩ : ∃ (AA : Nat → Option Addr) (L CC : Nat → Nat) (zs : Nat → List Int), n0 ≤ maxLen ∧ (A0 = none → n0 = 0 ∧ c0 = 0) ∧ (∀ r, r < n0 → L r ≤ maxLen) ∧ Cells W A0 n0 (fun r => .slice (AA r) (L r) (CC r)) ∧ ∀ r, r < n0 → RowIn W (AA r) (L r) (CC r) (zs r) := by
    obtain ⟨fuel, hf⟩ := h0
    rcases open_int_rows Try.underlying32 Try.underlying25 Try.underlying3 cells25 cells3 hf with ⟨hcs, _⟩ | ⟨a, len, cap, AA, L, CC, Z, hcs, _, hl, hm, _, hr⟩
    · simp [Value.cells] at hcs
      obtain ⟨rfl, rfl, rfl⟩ := hcs
      exact ⟨fun _ => none, fun _ => 0, fun _ => 0, fun _ => [], Nat.zero_le _, fun _ => ⟨rfl, rfl⟩, fun r hr => by omega, cells_none, fun r hr => by omega⟩
    · simp [Value.cells] at hcs
      obtain ⟨rfl, rfl, rfl⟩ := hcs
      refine ⟨AA, L, CC, fun r => (Z r).take (L r), by omega, (fun h => by cases h), fun r h => ?_, cells_of_add fun i hi => (hr i (by omega)).1, fun r h => ?_⟩
      · have := (hr r (by omega)).2.1; have := (hr r (by omega)).2.2.1; omega
      · obtain ⟨_, g2, g3, g4, _, g6, g7⟩ := hr r (by omega)
        refine ⟨by simp; omega, fun hA => ⟨by have := g6 hA; omega, g6 hA⟩, ?_⟩
        cases hAA : AA r with
        | none => intro i hi; have := g6 hAA; omega
        | some a' =>
          refine cells_of_add fun i hi => ?_
          rw [(g7 a' hAA).2 i (by omega)]
          simp [hi]
  have ints : ∀ (A : Option Addr) (n c : Nat) (d : DataW H) (ps : List MemPlace), DataW.Trod enc Try.prog W 0 (fun _ => true) true 25 (.slice A n c) d ps → n ≤ maxLen ∧ ∃ z : Nat → Int, Cells W A n (fun i => .int .i64 (z i)) ∧ ∀ i, i < n → In64 (z i) := by
    intro A n c d ps h
    obtain ⟨fuel, hf⟩ := h
    rcases open_ints Try.underlying25 Try.underlying3 cells3 hf with ⟨hcs, _⟩ | ⟨a, len, cap, zs, hcs, _, hl, hm, hz, _, hcell, hwz⟩
    · simp [Value.cells] at hcs
      obtain ⟨rfl, rfl, rfl⟩ := hcs
      exact ⟨Nat.zero_le _, fun _ => 0, cells_none, fun i hi => by omega⟩
    · simp [Value.cells] at hcs
      obtain ⟨rfl, rfl, rfl⟩ := hcs
      simp only [if_true] at hz
      refine ⟨by omega, fun i => zs.getD i 0, cells_of_add fun i hi => hcell i (by omega), fun i hi => Go.Joins.in64_of_wf (hwz _ ?_)⟩
      show zs.getD i 0 ∈ zs
      rw [List.getD_eq_getElem?_getD, List.getElem?_eq_getElem (show i < zs.length by omega)]
      exact List.getElem_mem _
  obtain ⟨hm1, tx, hc1, _⟩ := ints A1 n1 c1 d1 p1 h1
  obtain ⟨hm2, ow, hc2, hwf⟩ := ints A2 n2 c2 d2 p2 h2
  obtain ⟨hm3, ab, hc3⟩ : n3 ≤ maxLen ∧ ∃ ab : Nat → Bool, Cells W A3 n3 (fun i => .bool (ab i)) := by
    obtain ⟨fuel, hf⟩ := h3
    rcases open_bools Try.underlying30 Try.underlying4 cells4 hf with ⟨hcs, _⟩ | ⟨a, len, cap, bs, hcs, _, hl, hm, _, hcell⟩
    · simp [Value.cells] at hcs
      obtain ⟨rfl, rfl, rfl⟩ := hcs
      exact ⟨Nat.zero_le _, fun _ => false, cells_none⟩
    · simp [Value.cells] at hcs
      obtain ⟨rfl, rfl, rfl⟩ := hcs
      exact ⟨by omega, bs, cells_of_add fun i hi => hcell i (by omega)⟩
  refine (walk5 A0 A1 A2 A3 n0 c0 n1 c1 n2 c2 n3 c3 AA L CC zs ow tx ab W hm0 hm1 hm2 hm3 hL hAn hc0 hin hc1 hc2 hc3 hwf).mono fun e W' ⟨he, bel⟩ => ?_
  subst he
  exact ⟨_, rfl, _, _, _, [], _, [], hW', trodAll_mk1 (shut_bool Try.underlying4 _), (trodAll_cons_mk (Below.trod laidOut (by kernel_rfl) (of_decide_eq_true (by kernel_rfl)) k0 bel lt0) (trodAll_cons_mk (Below.trod laidOut (by kernel_rfl) (of_decide_eq_true (by kernel_rfl)) k1 bel lt1) (trodAll_cons_mk (Below.trod laidOut (by kernel_rfl) (of_decide_eq_true (by kernel_rfl)) k2 bel lt2) (trodAll_cons_mk (Below.trod laidOut (by kernel_rfl) (of_decide_eq_true (by kernel_rfl)) k3 bel lt3) trodAll_mk0)))), rfl, bel.frame _, fun h => by cases h⟩

theorem over : Rows.fnAwaitAfterAbortStartsAnewRow.holds Try.pinned (OpenSpec.ofChange Rows.fnAwaitAfterAbortStartsAnewSpec) :=
  OpenClaim.holds_of_wide 5 Try.f5 rfl rfl rfl rfl rfl rfl rfl ⟨rfl, rfl, rfl, rfl, rfl⟩ rfl rfl rfl rfl rfl (by kernel_rfl) Try.func5 (by kernel_rfl)
    (of_decide_eq_true (by kernel_rfl)) (by unfold Func.isWrapper; first | (rw [if_pos (by decide +kernel)]; kernel_rfl) | (rw [if_neg (by decide +kernel)]; exact ⟨rfl, rfl⟩))
    (fun os started H enc _ => lifted os started H enc)

/-- ████ THE STATEMENT ████ -/
theorem proved : Rows.FnAwaitAfterAbortStartsAnewSaid := over
#print axioms proved
end Go.Proofs.Qxb6616109a.fnAwait
