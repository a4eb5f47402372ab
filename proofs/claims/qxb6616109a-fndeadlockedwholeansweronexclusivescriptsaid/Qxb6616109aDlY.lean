import Derived.Test.Qxb6616109aDlX
import Derived.RangeFuncBox
namespace Go.Proofs.Qxb6616109a
open Go.RowKit Go.Deep Go.Joins Go.Shelf
attribute [local go_sem] Oper.semAt_some
set_option linter.unusedSimpArgs false
set_option linter.unusedVariables false

theorem wpListIn_append_by {F : Fence} {n : Nat} {P : Program} {w : World} {ops : Array Oper} {rest : List Oper} {o : Oper} {a : Act} {Q : Exit → Act → World → Prop}
    (hg : o.guard = none) (s x : Operand) (t u : TypeId) (hop : o.op = Op.call { callee := Callee.builtin Builtin.append, args := #[s, x], argTypes := #[t, u] })
    {v y : Value} (hs : a.eval s = v) (hx : a.eval x = y) {v' : Value} {w' : World} (hrun : (Builtin.append_ #[t, u] o.type #[v, y]).run P w = .ok v' w') (hK : wpListIn F n P ops Q rest (a.put o.dst v') w') :
    wpListIn F n P ops Q (o :: rest) a w := by
  refine wpListIn_plain hg fun K hK' => ?_
  unfold Oper.wpIn
  refine ⟨?_, ?_⟩
  · simp [Oper.about, hop, resolve, Target.leads, Sem.run_pure]
  · rw [Oper.semAt_plain F _ _ (by rw [hop]; intro c hc'; cases hc')]
    simp [execOp, hop, resolve, invoke, builtin, hs, hx, hrun, Result.andThen]
    exact hK' _ _ hK

/-- Whom transaction s waits for, as the table's cells tell it: E. -/
def Waits (w : World) (N p gHo gQ nG s : Nat) (Ag : Option Addr) (lg cg : Nat) (E : List Nat) : Prop :=
  (lg = 0 ∧ E = []) ∨ (lg = 1 ∧ ∃ bg og g A l cp ho, Ag = some ⟨bg, og, none⟩ ∧ w.cell? ⟨bg, og, none⟩ = some (.int .i64 (g : Nat)) ∧ g < nG ∧ Tab w p gHo gQ nG g A l cp ∧ HRow w A l ho ∧ (∀ b, A = some ⟨b, 0, none⟩ → b < N) ∧ E = edge ho s)

/-- The frame of the walk. -/
structure Fw (w W : World) (v0 : Value) : Prop where
  os : W.os = w.os
  tape : W.tape = w.tape
  output : W.output = w.output
  size : w.heap.size ≤ W.heap.size
  rest : ∀ b, b < w.heap.size → v0.ownBlock ≠ some b → W.heap[b]? = w.heap[b]?

theorem Fw.grown {w W W' : World} {v0 : Value} {row : Option Nat} (h : Fw w W v0) (hg : W.grownBy W' row) (hr : ∀ r, row = some r → w.heap.size ≤ r) : Fw w W' v0 :=
  ⟨hg.os.trans h.os, hg.tape.trans h.tape, hg.output.trans h.output, Nat.le_trans h.size hg.size, fun b hb hn => by
    rw [hg.block b (by have := h.size; omega) (fun e => by have := hr b e.symm; omega)]; exact h.rest b hb hn⟩

theorem fw_own {β : Type} {B k : Nat} {w : World} {v0 : Value} (hB : w.heap.size ≤ B) : OwnFrom B (fun (_ : β) W => Fw w W v0 ∧ k ≤ W.heap.size) :=
  fun _ _ _ _ hs hg hr => ⟨hs.1.grown hg (fun r e => Nat.le_trans hB (hr r e).1), Nat.le_trans hs.2 hg.size⟩

set_option maxRecDepth 100000 in
set_option maxHeartbeats 2000000 in
theorem appendWaitsFor58 (N p gHo gQ nG nT rf s : Nat) (Ag : Option Addr) (lg cg : Nat) (m : Int) (E : List Nat) (A0 : Option Addr) (c0 : Nat) (w : World) (hnG : nG ≤ 65536) (hnT : nT ≤ 4096) (hs : s < nT) (hN : N ≤ w.heap.size) (hlow : p < N ∧ gHo < N ∧ gQ < N ∧ rf < N)
    (hc3 : w.cell? ⟨p, 3, none⟩ = some (.slice (some ⟨rf, 0, none⟩) nT nT)) (hr0 : w.cell? ⟨rf, s * 2, none⟩ = some (.slice Ag lg cg)) (hr1 : w.cell? ⟨rf, s * 2 + 1, none⟩ = some (.int .u8 m)) (hE : Waits w N p gHo gQ nG s Ag lg cg E) (hown : w.ownsRow N 3 1 (.slice A0 0 c0) 0 []) :
    Calls Try.prog 58 #[.pointer (some ⟨p, 0, none⟩), .int .i64 s, .slice A0 0 c0] w fun e w' => ∃ A' c', e = .returned (.slice A' E.length c') ∧ Tn N w w' (.slice A0 0 c0) (.slice A' E.length c') (ic E) := by
  refine (callsIn_wide (n := 5)).1 ?_
  have hB0 : Below w.heap.size w (w.alloc (.cells #[.slice A0 0 c0] 25)) := (Below.refl _ w).alloc (Nat.le_refl _) _
  have hs0 : (w.alloc (.cells #[.slice A0 0 c0] 25)).heap.size = w.heap.size + 1 := by simp
  have hbx : Boxed (w.alloc (.cells #[.slice A0 0 c0] 25)) w.heap.size 25 (.slice A0 0 c0) := Boxed.new _ _ _
  have hown1 : (w.alloc (.cells #[.slice A0 0 c0] 25)).ownsRow N 3 1 (.slice A0 0 c0) 0 [] := hown.alloc _
  have kw := waitsFor52 p s Ag lg cg m (w.alloc (.cells #[.slice A0 0 c0] 25))
  obtain ⟨w1, hw1⟩ : ∃ w1, w.alloc (.cells #[.slice A0 0 c0] 25) = w1 := ⟨_, rfl⟩
  have HW1 : Hid (w.alloc (.cells #[.slice A0 0 c0] 25) = w1) := hw1
  rw [hw1] at hB0 hs0 hbx kw hown1
  have kc : ∀ {a : Addr} {v : Value}, w.cell? a = some v → w1.cell? a = some v := fun h => (hB0.cell (World.block_lt_of_cell? w _ h)).trans h
  have hv0b : ∀ b, (Value.slice A0 0 c0).ownBlock = some b → N ≤ b ∧ b < w.heap.size := fun b hb => hown.lt b hb
  have hA : Asks (wf3 w1 p s Ag lg cg m) (w1.heap.size + 3) (fun b => b = w.heap.size ∨ (Value.slice A0 0 c0).ownBlock = some b) (w1.heap.size + 2) w1.heap.size (w1.heap.size + 1) p gHo gQ nG s E := by
    rcases hE with ⟨rfl, rfl⟩ | ⟨rfl, bg, og, g, A, l, cp, ho, rfl, h1, h2, h3, h4, h5, rfl⟩
    · exact .inl ⟨Ag, cg, (wf3_cells w1 p s Ag 0 cg m).2.2.1, rfl⟩
    · refine asks_of ⟨kc h3.c0, kc h3.c1, kc h3.ho, kc h3.qu⟩ (h4.later hB0) h2 (kc h1) (Nat.le_refl _) ?_
      intro b hb
      have hbN : N ≤ b ∧ b < w.heap.size + 1 := by
        rcases hb with rfl | hb
        · omega
        · have := hv0b b hb; omega
      refine ⟨by omega, by omega, by omega, fun e => ?_, by omega⟩
      have := h5 b e
      omega
  have HA : Hid (Asks (wf3 w1 p s Ag lg cg m) (w1.heap.size + 3) (fun b => b = w.heap.size ∨ (Value.slice A0 0 c0).ownBlock = some b) (w1.heap.size + 2) w1.heap.size (w1.heap.size + 1) p gHo gQ nG s E) := hA
  have KW : Hid (Calls Try.prog 52 #[.pointer (some ⟨p, 0, none⟩), .int .i64 s, .agg #[.slice Ag lg cg, .int .u8 m]] w1 fun e w' => e = .returned (.func (.func 62) #[] #[.pointer (some ⟨w1.heap.size + 2, 0, none⟩), .pointer (some ⟨w1.heap.size, 0, none⟩), .pointer (some ⟨w1.heap.size + 1, 0, none⟩)]) ∧
      w' = ((w1.alloc (.cells #[.pointer (some ⟨p, 0, none⟩)] 22)).alloc (.cells #[.int .i64 s] 3)).alloc (.cells #[.slice Ag lg cg, .int .u8 m] 54)) := kw
  have hps : p < w.heap.size := by omega
  have hrs : rf < w.heap.size := by omega
  have hF1 : Fw w w1 (.slice A0 0 c0) := ⟨hB0.os, hB0.tape, hB0.output, hB0.size, fun b hb _ => hB0.block b hb⟩
  have HF1 : Hid (Fw w w1 (.slice A0 0 c0)) := hF1
  have HBX : Hid (Boxed w1 w.heap.size 25 (.slice A0 0 c0)) := hbx
  have HOWN1 : Hid (w1.ownsRow N 3 1 (.slice A0 0 c0) 0 []) := hown1
  have HV0 : Hid (∀ b, (Value.slice A0 0 c0).ownBlock = some b → N ≤ b ∧ b < w.heap.size) := hv0b
  clear hA kw hE kc hw1 hown hown1 hbx hF1 hv0b
  refine callsIn_of_wp_marks Try.func58 rfl trivial ?_ rfl
  simp only [Try.ntmps58, List.size_toArray, List.length_cons, List.length_nil, Nat.reduceAdd, Nat.reduceSub, Array.replicate_succ, Array.replicate_zero, List.push_toArray, List.append_toArray, List.nil_append, List.cons_append]
  gi_wp2
  refine ⟨trivial, ?_⟩
  rw [HW1.out]
  refine (callsIn_wide.2 KW.out).mono ?_
  rintro e w' ⟨rfl, hw⟩
  have hw : w' = wf3 w1 p s Ag lg cg m := hw
  rw [hw]
  clear hw
  dsimp only
  gi_wp2
  have hB3 := wf3_below w1 p s Ag lg cg m
  have hs3 := wf3_size w1 p s Ag lg cg m
  have hit := it62 (w1.heap.size + 3) (fun b => b = w.heap.size ∨ (Value.slice A0 0 c0).ownBlock = some b) (w1.heap.size + 2) w1.heap.size (w1.heap.size + 1) p gHo gQ nG s E _ hnG (by rw [hs3]; exact Nat.le_refl _) HA.out
  have hF3 : Fw w (wf3 w1 p s Ag lg cg m) (.slice A0 0 c0) := HF1.out.grown (grownBy_of_below hB3) (fun r e => by cases e)
  have hbx3 : Boxed (wf3 w1 p s Ag lg cg m) w.heap.size 25 (.slice A0 0 c0) := HBX.out.kept (grownBy_of_below hB3) (by simp)
  have hown3 : (wf3 w1 p s Ag lg cg m).ownsRow N 3 1 (.slice A0 0 c0) 0 [] := HOWN1.out.kept (grownBy_of_below hB3) (by cases h : (Value.slice A0 0 c0).ownBlock <;> simp)
  clear hc3 hr0 hr1
  generalize wf3 w1 p s Ag lg cg m = w3 at *
  refine wpIn_rangeFunc_ownF rfl (by decide) (gf := 62) (lb := #[.pointer (some ⟨w1.heap.size + 2, 0, none⟩), .pointer (some ⟨w1.heap.size, 0, none⟩), .pointer (some ⟨w1.heap.size + 1, 0, none⟩)]) rfl trivial (enters_of Try.func62 (by kernel_rfl) rfl)
    hit kpS_t (kpS_b (by omega)) (Below.refl _ _) (fun _ => rfl)
    (fun pre W => (∃ v, Boxed W w.heap.size 25 v ∧ W.ownsRow N 3 1 v pre.length (ic pre) ∧ (∀ b, v.ownBlock = some b → (Value.slice A0 0 c0).ownBlock = some b ∨ w1.heap.size + 3 ≤ b)) ∧ (Fw w W (.slice A0 0 c0) ∧ w1.heap.size + 3 ≤ W.heap.size))
    (fun cd pre W => False)
    (OwnFrom.and ((holdsRow_own N w.heap.size 25 3 1 (fun pre : List Nat => pre.length) ic (fun _ v => ∀ b, v.ownBlock = some b → (Value.slice A0 0 c0).ownBlock = some b ∨ w1.heap.size + 3 ≤ b)).from _) (fw_own (by omega)))
    (fun cd => fun _ _ _ _ h => h.elim)
    ⟨⟨_, hbx3, hown3, fun b hb => .inl hb⟩, hF3, Nat.le_of_eq hs3.symm⟩
    (fun x => { tmps := #[.pointer (some ⟨p, 0, none⟩), .int .i64 s, .slice A0 0 c0, undef, undef, .pointer (some ⟨w.heap.size, 0, none⟩), .slice none 0 0, .int .i64 x, .pointer (some ⟨p, 0, none⟩), .int .i64 s, .pointer (some ⟨p, 0, none⟩), .pointer (some ⟨p, 0, none⟩), .pointer (some ⟨p, 3, none⟩), .slice (some ⟨rf, 0, none⟩) nT nT, .int .i64 s, .pointer (some ⟨rf, s * 2, none⟩), .agg #[.slice Ag lg cg, .int .u8 m], .func (.func 62) #[] #[.pointer (some ⟨w1.heap.size + 2, 0, none⟩), .pointer (some ⟨w1.heap.size, 0, none⟩), .pointer (some ⟨w1.heap.size + 1, 0, none⟩)], .int .i64 x, undef, undef, undef, undef, undef], defers := [] }) ?assign ?body ?done ?stop
  case assign =>
    intro l x W K hK
    gi_wp2
    simpa [hs0] using hK
  case body =>
    rintro l pre x W ⟨⟨v, hbv, hrow, hfr⟩, hF, hW3s⟩ hlen
    obtain ⟨A', c', rfl⟩ : ∃ A' c', v = .slice A' pre.length c' := by
      rcases ownsRow_forms hrow with ⟨e, h0⟩ | ⟨g, cap, e⟩
      · exact ⟨none, 0, by rw [e, h0]⟩
      · exact ⟨_, cap, e⟩
    obtain ⟨i3, hi3, hy0, hy1, hy2⟩ := info_parts info3
    have hFs := hF.size
    have hnews : ∀ j u, ([.int .i64 (x : Int)] : List Value)[j]? = some u → (W.alloc (.cells #[.int .i64 (x : Int)] 3)).cell? (Addr.add ⟨W.heap.size, 0, none⟩ j) = some u := by
      intro j u hj
      match j, hj with
      | 0, hj => simp at hj; subst hj; simp [Addr.add]
    obtain ⟨g, cap, W2, h1, h2, h3, h4⟩ := run_append_row (P := Try.prog) (W.alloc (.cells #[.int .i64 (x : Int)] 3)) N 25 25 3 i3 (.int .i64 0) 1 8 Try.underlying25 hi3 hy0 hy1 hy2 rfl (by decide) (.slice A' pre.length c') pre.length (ic pre) (hrow.alloc _) ⟨W.heap.size, 0, none⟩ 1 [.int .i64 (x : Int)] rfl hnews (by intro u hu; simp at hu; subst hu; rfl) (by simp only [maxLen]; omega) (by omega) (by simp; omega)
    have hsW : W.heap.size ≤ (W.alloc (.cells #[.int .i64 (x : Int)] 3)).heap.size := by simp
    have hap := hbv.appended (by decide) hrow (by omega) hN h2 h3
    have hpost : ∀ W3, W2.setCell ⟨w.heap.size, 0, none⟩ (.slice (some ⟨g, 0, none⟩) (pre.length + 1) cap) = W3 → KeepsOthers W W3 ∧ KpS (w1.heap.size + 3) (fun b => b = w.heap.size ∨ (Value.slice A0 0 c0).ownBlock = some b) W W3 ∧ (∃ v, Boxed W3 w.heap.size 25 v ∧ W3.ownsRow N 3 1 v (pre ++ [x]).length (ic (pre ++ [x])) ∧ (∀ b, v.ownBlock = some b → (Value.slice A0 0 c0).ownBlock = some b ∨ w1.heap.size + 3 ≤ b)) ∧ Fw w W3 (.slice A0 0 c0) ∧ w1.heap.size + 3 ≤ W3.heap.size := by
      rintro W3 rfl
      obtain ⟨p1, p2, p3, p4, p5⟩ := hap
      have hblk : ∀ b, b < W.heap.size → b ≠ w.heap.size → (Value.slice A' pre.length c').ownBlock ≠ some b → (W2.setCell ⟨w.heap.size, 0, none⟩ (.slice (some ⟨g, 0, none⟩) (pre.length + 1) cap)).heap[b]? = W.heap[b]? := by
        intro b hb hne hnv
        rw [Below.heap_setCell _ _ _ _ (by simpa using hne), h3.block b (by omega) (fun e => hnv e.symm)]
        exact Below.heap_alloc W _ b hb
      refine ⟨p4, ?_, ⟨_, p2, ?_, ?_⟩, ?_⟩
      · intro b hb hnS
        by_cases hbW : b < W.heap.size
        · refine hblk b hbW (fun e => hnS (.inl e)) (fun e => ?_)
          rcases hfr b e with h5 | h5
          · exact hnS (.inr h5)
          · omega
        · have h6 : w1.heap.size + 3 ≤ W.heap.size := hW3s
          omega
      · rw [List.length_append, ic_app]
        exact p3
      · intro b hb
        have hbg : g = b := by simpa [Value.ownBlock] using hb
        subst hbg
        rcases h4 with h5 | h5
        · exact hfr g h5
        · right
          have h6 : w1.heap.size + 3 ≤ W.heap.size := hW3s
          omega
      · refine ⟨⟨h3.os.trans hF.os, h3.tape.trans hF.tape, h3.output.trans hF.output, by rw [nblk_setCell]; have := h3.size; omega, ?_⟩, by rw [nblk_setCell]; have := h3.size; omega⟩
        intro b hb hnv
        rw [hblk b (by omega) (by omega) (fun e => ?_)]
        · exact hF.rest b hb hnv
        · rcases hfr b e with h5 | h5
          · exact hnv h5
          · omega
    have HPOST : Hid (∀ W3, W2.setCell ⟨w.heap.size, 0, none⟩ (.slice (some ⟨g, 0, none⟩) (pre.length + 1) cap) = W3 → KeepsOthers W W3 ∧ KpS (w1.heap.size + 3) (fun b => b = w.heap.size ∨ (Value.slice A0 0 c0).ownBlock = some b) W W3 ∧ (∃ v, Boxed W3 w.heap.size 25 v ∧ W3.ownsRow N 3 1 v (pre ++ [x]).length (ic (pre ++ [x])) ∧ (∀ b, v.ownBlock = some b → (Value.slice A0 0 c0).ownBlock = some b ∨ w1.heap.size + 3 ≤ b)) ∧ Fw w W3 (.slice A0 0 c0) ∧ w1.heap.size + 3 ≤ W3.heap.size) := hpost
    have q1 := hbv.cell
    have q2 := hap.1.cell
    have q3 := hap.1.frozen
    have hbW : w.heap.size < W.heap.size := hbv.lt
    clear hpost hap hnews h2 h3 h4 hbv hrow hfr hF
    gi_wp2_with (gi_at_builtin; refine wpListIn_append_by rfl (.tmp 19) (.tmp 21) 25 25 rfl rfl rfl h1 ?_)
    exact HPOST.out _ rfl
  case done =>
    rintro D ys W hD rfl ⟨⟨v, hbv, hrow, hfr⟩, hF, hW3s⟩ hK
    obtain ⟨A', c', rfl⟩ : ∃ A' c', v = .slice A' ys.length c' := by
      rcases ownsRow_forms hrow with ⟨e, h0⟩ | ⟨g, cap, e⟩
      · exact ⟨none, 0, by rw [e, h0]⟩
      · exact ⟨_, cap, e⟩
    have q1 := hbv.cell
    have hrow2 := ownsRow_putObj hrow (.deferred none) hK rfl
    have hF2 : Fw w (W.putObj D (.deferred none)) (.slice A0 0 c0) := hF.grown (grownBy_putObj' W D _) (fun r e => by cases e; omega)
    have hT : Tn N w (W.putObj D (.deferred none)) (.slice A0 0 c0) (.slice A' ys.length c') (ic ys) := ⟨hF2.os, hF2.tape, hF2.output, hF2.size, hF2.rest, by rw [ic_len]; exact hrow2, fun b hb => by
      rcases hfr b hb with h5 | h5
      · exact .inl h5
      · right; omega⟩
    have HT : Hid (Tn N w (W.putObj D (.deferred none)) (.slice A0 0 c0) (.slice A' ys.length c') (ic ys)) := hT
    clear hT hF2 hrow2 hbv hrow hfr hF hit
    gi_wp2
    refine ⟨by simp, .inl ⟨_, _, rfl, run_takeDeferred hK, ?_⟩⟩
    refine ⟨.slice A' ys.length c', ?_, A', c', rfl, HT.out⟩
    simp [results, Try.f58, go_sem]
  case stop =>
    rintro D cd pre W hD _ hf hK
    exact hf.elim
end Go.Proofs.Qxb6616109a
