import Derived.Test.Qxb6616109aDlW
namespace Go.Proofs.Qxb6616109a
open Go.RowKit Go.Deep Go.Joins
set_option linter.unusedSimpArgs false
set_option linter.unusedVariables false

variable {N p : Nat} {w w1 : World} {V : Nat → Value} {X : Nat → List Value}

theorem reach_yes (x via : Nat) (F R : List Int) (w : World) (h : Sx N p w V X) (hX0 : X 0 = jc F) (hX2 : X 2 = jc R) (hz : F.getD x (-1) = -1) (hx : x ≤ 4096) (hF : F.length ≤ 4097) (hR : R.length ≤ 65536) :
    Calls Try.prog 75 #[.pointer (some ⟨p, 11, none⟩), .int .i64 (x : Nat), .int .i64 (via : Nat)] w fun e w' => e = .returned (.bool true) ∧ (∃ V', Sx N p w' V' (put1 (put1 X 0 (jc ((wide F x).set x via))) 2 (jc (R ++ [(x : Int)])))) ∧ Sfr N p w w' := by
  unfold wide
  by_cases hlt : x < F.length
  · rw [if_pos hlt]
    refine reach_yes1 x via F R w h hX0 hX2 ?_ hx hF hR
    rw [List.getElem?_eq_getElem hlt]
    simpa [hlt] using hz
  · rw [if_neg hlt]
    exact reach_yes2 x via F R w h hX0 hX2 (by omega) hx hF hR

/-- append of a number onto a row of the call's own. -/
theorem row_app {M n : Nat} {v : Value} {xs : List Value} (hown : w.ownsRow M 3 1 v n xs) (hM : M ≤ w.heap.size) (hn : n ≤ 65536) (x : Int) :
    ∃ g cap w', (Builtin.append_ #[25, 25] 25 #[v, .slice (some ⟨w.heap.size, 0, none⟩) 1 1]).run Try.prog (w.alloc (.cells #[.int .i64 x] 3)) = .ok (.slice (some ⟨g, 0, none⟩) (n + 1) cap) w' ∧
      w'.ownsRow M 3 1 (.slice (some ⟨g, 0, none⟩) (n + 1) cap) (n + 1) (xs ++ [.int .i64 x]) ∧ Below M w w' := by
  obtain ⟨i3, hi3, hy0, hy1, hy2⟩ := info_parts info3
  have hnews : ∀ j u, ([.int .i64 x] : List Value)[j]? = some u → (w.alloc (.cells #[.int .i64 x] 3)).cell? (Addr.add ⟨w.heap.size, 0, none⟩ j) = some u := by
    intro j u hj
    match j, hj with
    | 0, hj => simp at hj; subst hj; simp [Addr.add]
  obtain ⟨g, cap, w', h1, h2, h3, h4⟩ := run_append_row (P := Try.prog) (w.alloc (.cells #[.int .i64 x] 3)) M 25 25 3 i3 (.int .i64 0) 1 8 Try.underlying25 hi3 hy0 hy1 hy2 rfl (by decide) v n xs (hown.alloc _) ⟨w.heap.size, 0, none⟩ 1 [.int .i64 x] rfl hnews (by intro u hu; simp at hu; subst hu; rfl) (by simp only [maxLen]; omega) (by omega) (by simp; omega)
  refine ⟨g, cap, w', h1, h2, ?_⟩
  have e1 : (w.alloc (.cells #[.int .i64 x] 3)).heap.size = w.heap.size + 1 := by simp
  refine ⟨h3.os, h3.tape, h3.output, by have := h3.size; omega, ?_⟩
  intro b hb
  rw [h3.block b (by omega) (fun e => by have := (hown.lt b e.symm).1; omega)]
  exact Below.heap_alloc w _ b (by omega)

theorem rowIs_of_owns {M n g cap : Nat} {xs : List Value} (h : w.ownsRow M 3 1 (.slice (some ⟨g, 0, none⟩) n cap) n xs) : ∃ f : Nat → Value, w.rowIs g 3 cap f ∧ n ≤ cap ∧ cap ≤ maxLen ∧ M ≤ g ∧ ∀ i, i < n → xs[i]? = some (f i) := by
  rcases h.2 with ⟨e, _⟩ | ⟨g', cap', cur, e, h1, h2, h3, h4, h5, h6⟩
  · cases e
  · simp only [Value.slice.injEq, Option.some.injEq, Addr.mk.injEq] at e
    obtain ⟨⟨rfl, _⟩, _, rfl⟩ := e
    refine ⟨fun i => (cur[i]?).getD undef, ⟨cur, h2, by omega, fun i hi => by simp [show i < cur.size by omega]⟩, h3, h4, h1, ?_⟩
    intro i hi
    rw [← h6, List.getElem?_take, if_pos (by omega)]
    simp [show i < cur.size by omega]

theorem owns_of_rowIs {M n g cap : Nat} {f : Nat → Value} {xs : List Value} (h : w.rowIs g 3 cap f) (hn : n ≤ cap) (hc : cap ≤ maxLen) (hM : M ≤ g) (hl : xs.length = n) (hx : ∀ i, i < n → xs[i]? = some (f i)) : w.ownsRow M 3 1 (.slice (some ⟨g, 0, none⟩) n cap) n xs := by
  obtain ⟨c, h1, h2, h3⟩ := h
  refine ⟨by omega, .inr ⟨g, cap, c, rfl, hM, h1, hn, hc, by omega, ?_⟩⟩
  apply List.ext_getElem?
  intro i
  rw [List.getElem?_take]
  by_cases e : i < n * 1
  · rw [if_pos e, hx i (by omega)]
    simpa using h3 i (by omega)
  · rw [if_neg e, List.getElem?_eq_none (by omega)]

theorem ic_at (l : List Nat) (j : Nat) : (ic l)[j]? = (l[j]?).map (fun n : Nat => Value.int .i64 (n : Int)) := by simp [ic]
theorem ic_len (l : List Nat) : (ic l).length = l.length := by simp [ic]
theorem ic_app (l m : List Nat) : ic (l ++ m) = ic l ++ ic m := by simp [ic]

set_option maxHeartbeats 2000000 in
set_option maxRecDepth 100000 in
theorem pathTo76 (F : List Int) (P : List Nat) (a : Nat) (w : World) (h : Sx N p w V X) (hX0 : X 0 = jc F) (hP0 : P[0]? = some a) (hch : ∀ i x y : Nat, P[i]? = some x → P[i + 1]? = some y → F[y]? = some (x : Int) ∧ y ≠ a) (hb : ∀ x ∈ P, x ≤ 4096) (hPl : P.length ≤ 4097) (hF : F.length ≤ 4097)
    (last : Nat) (hL : P[P.length - 1]? = some last) :
    Calls Try.prog 76 #[.pointer (some ⟨p, 11, none⟩), .int .i64 (last : Nat), .int .i64 (a : Nat)] w fun e w' => ∃ g cap, e = .returned (.slice (some ⟨g, 0, none⟩) P.length cap) ∧ w'.ownsRow w.heap.size 3 1 (.slice (some ⟨g, 0, none⟩) P.length cap) P.length (ic P) ∧ Below w.heap.size w w' := by
  have hlen : (X 0).length = F.length := by rw [hX0, jc_len]
  obtain ⟨A, c, hv⟩ := h.form (i := 0) (by decide)
  have c11 : w.cell? ⟨p, 11, none⟩ = some (V 0) := (h.pc 0 (by decide)).1
  rw [hv, hlen] at c11
  have hpos : 0 < P.length := by
    rcases Nat.eq_zero_or_pos P.length with h0 | h0
    · rw [List.getElem?_eq_none (by omega)] at hP0; cases hP0
    · exact h0
  have hps : p < w.heap.size := by have := h.low; have := h.size; omega
  have hread : ∀ x z, F[x]? = some z → ∃ g, A = some ⟨g, 0, none⟩ ∧ g < w.heap.size ∧ w.cell? ⟨g, x, none⟩ = some (.int .i64 z) ∧ x < F.length := by
    intro x z hz
    have hz' : (X 0)[x]? = some (.int .i64 z) := by rw [hX0, jc_at, hz]; rfl
    obtain ⟨g, cap, e, _, hgs, hc, _⟩ := h.at (i := 0) (by decide) hz'
    rw [hv] at e
    simp only [Value.slice.injEq] at e
    refine ⟨g, e.1, hgs, hc, ?_⟩
    rcases Nat.lt_or_ge x F.length with h1 | h1
    · exact h1
    · rw [List.getElem?_eq_none h1] at hz; cases hz
  have HREAD : Hid (∀ x z, F[x]? = some z → ∃ g, A = some ⟨g, 0, none⟩ ∧ g < w.heap.size ∧ w.cell? ⟨g, x, none⟩ = some (.int .i64 z) ∧ x < F.length) := hread
  have HCH : Hid (∀ i x y : Nat, P[i]? = some x → P[i + 1]? = some y → F[y]? = some (x : Int) ∧ y ≠ a) := hch
  have HB : Hid (∀ x ∈ P, x ≤ 4096) := hb
  have HL : Hid (P[P.length - 1]? = some last) := hL
  have HP0 : Hid (P[0]? = some a) := hP0
  obtain ⟨n, hn⟩ : ∃ n, F.length = n := ⟨_, rfl⟩
  rw [hn] at c11 hF
  obtain ⟨bw, hbw⟩ : ∃ bw, w.heap.size = bw := ⟨_, rfl⟩
  rw [hbw] at hps
  clear h hread hch hb hL hP0 hX0 hv hlen
  go_enter Try.func76, Try.ntmps76
  go_wp2_with fail
  go_loopw [7, 8] (fun v u wr => ∃ (i x l c : Nat) (A' : Option Addr), i < P.length ∧ P[i]? = some x ∧ u = .int .i64 (x : Nat) ∧ v = .slice A' l c ∧ l + i + 1 = P.length ∧ wr.ownsRow bw 3 1 (.slice A' l c) l (ic (P.drop (i + 1)).reverse) ∧ Below bw w wr) (fun v u wr => P.length - (match v with | .slice _ l _ => l | _ => 0))
  case atStart =>
    refine ⟨P.length - 1, last, 0, 0, none, by omega, HL.out, rfl, rfl, by omega, ?_, hbw ▸ Below.refl _ _⟩
    have e : P.drop (P.length - 1 + 1) = [] := List.drop_eq_nil_of_le (by omega)
    rw [e]
    exact World.ownsRow_nil _ _ _ _
  case round =>
    obtain ⟨i, x, l, c', A', hi, hx, rfl, rfl, hl, hown, hB⟩ := hrel
    have hxm : x ≤ 4096 := HB.out x (List.mem_of_getElem? hx)
    have hbs := hB.size
    have hlt : p < bw := hps
    have d11 : wr.cell? ⟨p, 11, none⟩ = some (.slice A n c) := (World.cell?_of_block (hB.block p hlt)).trans c11
    obtain ⟨g, cap, w2, hrun, hown2, hB2⟩ := row_app hown (by omega) (by omega) x
    have hdrop : P.drop i = x :: P.drop (i + 1) := by
      rw [List.drop_eq_getElem_cons hi]
      congr 1
      rw [List.getElem?_eq_getElem hi] at hx
      simpa using hx
    have hown3 : w2.ownsRow bw 3 1 (.slice (some ⟨g, 0, none⟩) (l + 1) cap) (l + 1) (ic (P.drop i).reverse) := by
      rw [hdrop, List.reverse_cons, ic_app]
      exact hown2
    have HB2 : Hid (Below bw w w2) := hB.trans hB2
    have e11 : w2.cell? ⟨p, 11, none⟩ = some (.slice A n c) := (World.cell?_of_block (hB2.block p hlt)).trans d11
    have HRUN : Hid ((Builtin.append_ #[25, 25] 25 #[.slice A' l c', .slice (some ⟨wr.heap.size, 0, none⟩) 1 1]).run Try.prog (wr.alloc (.cells #[.int .i64 (x : Int)] 3)) = .ok (.slice (some ⟨g, 0, none⟩) (l + 1) cap) w2) := hrun
    have HOWN : Hid (w2.ownsRow bw 3 1 (.slice (some ⟨g, 0, none⟩) (l + 1) cap) (l + 1) (ic (P.drop i).reverse)) := hown3
    have HPI : Hid (P[i]? = some x) := hx
    clear hown hown2 hown3 hrun hdrop d11 c11 hx
    by_cases h0 : i = 0
    · subst h0
      have hxa : x = a := by have := HPI.out; rw [HP0.out] at this; simpa using this.symm
      subst hxa
      have hPd : (P.drop 0) = P := rfl
      rw [hPd] at HOWN
      obtain ⟨f, hrow, hnc, hcm, hMg, hfx⟩ := rowIs_of_owns HOWN.out
      have hll : l + 1 = P.length := by omega
      have hint : ∀ j, j < l + 1 → ∃ z : Int, f j = .int .i64 z := by
        intro j hj
        have h1 := hfx j hj
        rw [ic_at] at h1
        cases hh : P.reverse[j]? with
        | none => rw [hh] at h1; cases h1
        | some y => rw [hh] at h1; exact ⟨y, by simpa using h1.symm⟩
      have k83 := reverse83 g (l + 1) cap f w2 hrow hint hnc (by omega)
      have hfin : ∀ w3, w3.rowIs g 3 cap (rv f (l + 1) (l + 1)) → OnlyB w2 w3 g → w3.ownsRow bw 3 1 (.slice (some ⟨g, 0, none⟩) P.length cap) P.length (ic P) ∧ Below bw w w3 := by
        intro w3 h1 h2
        rw [hll] at h1 hnc
        refine ⟨owns_of_rowIs h1 hnc hcm hMg (ic_len _) ?_, HB2.out.trans ⟨h2.os, h2.tape, h2.output, by rw [h2.size]; exact Nat.le_refl _, fun b hb => h2.block b (by omega)⟩⟩
        intro j hj
        unfold rv
        rw [if_pos (by omega)]
        have h3 := hfx (P.length - 1 - j) (by omega)
        rw [← h3, ic_at, ic_at, List.getElem?_reverse (by omega)]
        congr 2
        omega
      have HFIN : Hid (∀ w3, w3.rowIs g 3 cap (rv f (l + 1) (l + 1)) → OnlyB w2 w3 g → w3.ownsRow bw 3 1 (.slice (some ⟨g, 0, none⟩) P.length cap) P.length (ic P) ∧ Below bw w w3) := hfin
      have HLL : Hid (l + 1 = P.length) := hll
      clear hfin hfx hrow hint hll e11
      go_wp2_with (at_builtin; refine wpList_append_by rfl (.tmp 24) (.tmp 26) 25 25 rfl rfl rfl HRUN.out ?_)
      rw [HLL.out] at k83 HFIN
      refine k83.mono ?_
      rintro e w3 ⟨rfl, h1, h2⟩
      obtain ⟨r1, r2⟩ := HFIN.out w3 h1 h2
      clear h1 h2 k83
      have R1 : Hid (w3.ownsRow bw 3 1 (.slice (some ⟨g, 0, none⟩) P.length cap) P.length (ic P)) := r1
      have R2 : Hid (Below bw w w3) := r2
      clear r1 r2
      dsimp only
      go_wp2
      go_ret
      exact ⟨g, cap, rfl, by rw [hbw]; exact R1.out, by rw [hbw]; exact R2.out⟩
    · obtain ⟨i', rfl⟩ : ∃ i', i = i' + 1 := ⟨i - 1, by omega⟩
      obtain ⟨x', hx'⟩ : ∃ x', P[i']? = some x' := ⟨P[i']'(by omega), List.getElem?_eq_getElem (by omega)⟩
      obtain ⟨hF1, hxa⟩ := HCH.out i' x' x hx' HPI.out
      obtain ⟨gF, rfl, hgs, hcF, hxn⟩ := HREAD.out x x' hF1
      rw [hn] at hxn
      rw [hbw] at hgs
      have eF : w2.cell? ⟨gF, x, none⟩ = some (.int .i64 (x' : Int)) := (World.cell?_of_block (HB2.out.block gF hgs)).trans hcF
      have t1 : ((x : Int) == (a : Int)) = false := by simpa using fun e : (x : Int) = (a : Int) => hxa (by omega)
      have hxai : ¬ ((x : Int) = (a : Int)) := by omega
      clear hcF hF1
      go_wp2_with (at_builtin; refine wpList_append_by rfl (.tmp 20) (.tmp 22) 25 25 rfl rfl rfl HRUN.out ?_)
      go_roundw
      case rel => exact ⟨i', x', l + 1, cap, _, by omega, hx', rfl, rfl, by omega, HOWN.out, HB2.out⟩
      case measure => simp; omega
end Go.Proofs.Qxb6616109a
