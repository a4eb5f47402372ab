import Derived.Test.Qxb6616109aDlQ
namespace Go.Proofs.Qxb6616109a
open Go.RowKit Go.Deep Go.Joins
set_option linter.unusedSimpArgs false
set_option linter.unusedVariables false

theorem wpOp_gen {P : Program} {ops : Array Oper} {Q : Exit → Act → World → Prop} {i : Nat} {o : Oper} {K : Act → World → Prop} {a : Act} {w w1 : World} {v : Value}
    (ho : ops[i]? = some o) (hg : o.guard = none) (hex : (execOp a.eval o).run P w = .ok (.value v) w1) (hK : K (a.put o.dst v) w1) : wpOp P ops Q i K a w := by
  have hw : Region.wanted o (yielded ops a.tmps) = true := by simp [Region.wanted, hg]
  unfold wpOp
  rw [ho]
  show if Region.wanted o (yielded ops a.tmps) = true then _ else _
  rw [if_pos hw]
  left
  unfold Oper.wp
  rw [hex]
  exact hK
theorem ops6_15 : ops6[15]? = some (op6 15) := by kernel_rfl
theorem op6_15o : (op6 15).op = .build 51 #[(0, .tmp 8), (1, .tmp 10), (2, .tmp 12), (3, .tmp 14), (4, .tmp 16), (6, .tmp 18), (7, .tmp 20), (8, .tmp 21)] := by kernel_rfl
theorem op6_15d : (op6 15).dst = some 22 := by kernel_rfl
theorem op6_15g : (op6 15).guard = none := by kernel_rfl
theorem ops6_16 : ops6[16]? = some (op6 16) := by kernel_rfl
theorem op6_16o : (op6 16).op = .box 51 (.tmp 22) := by kernel_rfl
theorem op6_16d : (op6 16).dst = some 23 := by kernel_rfl
theorem op6_16g : (op6 16).guard = none := by kernel_rfl
theorem ops6_17 : ops6[17]? = some (op6 17) := by kernel_rfl
theorem op6_17o : (op6 17).op = .assign (.tmp 23) := by kernel_rfl
theorem op6_17d : (op6 17).dst = some 5 := by kernel_rfl
theorem op6_17g : (op6 17).guard = none := by kernel_rfl

def tab6 (nT nG b0 b1 b2 b3 b4 b5 b6 b7 : Nat) : Array Value := #[.slice (some ⟨b0, 0, none⟩) nG nG, .slice (some ⟨b1, 0, none⟩) nG nG, .slice (some ⟨b2, 0, none⟩) nT nT, .slice (some ⟨b3, 0, none⟩) nT nT, .slice (some ⟨b4, 0, none⟩) nT nT, .nilFunc, .slice (some ⟨b5, 0, none⟩) nT nT, .slice (some ⟨b6, 0, none⟩) nT nT, .map (some b7), .int .u64 0, .slice none 0 0, .slice none 0 0, .slice none 0 0, .slice none 0 0, .slice none 0 0]
theorem ex15 (nT nG b0 b1 b2 b3 b4 b5 b6 b7 : Nat) (a : Act) (w : World) (h8 : a.tmps[8]? = some (.slice (some ⟨b0, 0, none⟩) nG nG)) (h10 : a.tmps[10]? = some (.slice (some ⟨b1, 0, none⟩) nG nG)) (h12 : a.tmps[12]? = some (.slice (some ⟨b2, 0, none⟩) nT nT))
    (h14 : a.tmps[14]? = some (.slice (some ⟨b3, 0, none⟩) nT nT)) (h16 : a.tmps[16]? = some (.slice (some ⟨b4, 0, none⟩) nT nT)) (h18 : a.tmps[18]? = some (.slice (some ⟨b5, 0, none⟩) nT nT)) (h20 : a.tmps[20]? = some (.slice (some ⟨b6, 0, none⟩) nT nT)) (h21 : a.tmps[21]? = some (.map (some b7))) :
    (execOp a.eval (op6 15)).run Try.prog w = .ok (.value (.agg (tab6 nT nG b0 b1 b2 b3 b4 b5 b6 b7))) w := by
  simp [execOp, op6_15o, Instr.build, run_underlying Try.underlying51, go_sem, h8, h10, h12, h14, h16, h18, h20, h21, Try.zeroValue51, tab6]
theorem ex16 (cs : Array Value) (a : Act) (w : World) (h22 : a.tmps[22]? = some (.agg cs)) :
    (execOp a.eval (op6 16)).run Try.prog w = .ok (.value (.pointer (some ⟨w.heap.size, 0, none⟩))) (w.alloc (.cells cs 51)) := by
  simp [execOp, op6_16o, go_sem, h22]
theorem ex17 (v : Value) (a : Act) (w : World) (h23 : a.tmps[23]? = some (v)) :
    (execOp a.eval (op6 17)).run Try.prog w = .ok (.value v) w := by
  simp [execOp, op6_17o, go_sem, h23]
theorem ops6_0 : ops6[0]? = some (op6 0) := by kernel_rfl
theorem op6_0o : (op6 0).op = .move (.tmp 1) := by kernel_rfl
theorem op6_0d : (op6 0).dst = some 7 := by kernel_rfl
theorem op6_0g : (op6 0).guard = none := by kernel_rfl
theorem ops6_2 : ops6[2]? = some (op6 2) := by kernel_rfl
theorem op6_2o : (op6 2).op = .move (.tmp 1) := by kernel_rfl
theorem op6_2d : (op6 2).dst = some 9 := by kernel_rfl
theorem op6_2g : (op6 2).guard = none := by kernel_rfl
theorem ops6_4 : ops6[4]? = some (op6 4) := by kernel_rfl
theorem op6_4o : (op6 4).op = .move (.tmp 0) := by kernel_rfl
theorem op6_4d : (op6 4).dst = some 11 := by kernel_rfl
theorem op6_4g : (op6 4).guard = none := by kernel_rfl
theorem ops6_6 : ops6[6]? = some (op6 6) := by kernel_rfl
theorem op6_6o : (op6 6).op = .move (.tmp 0) := by kernel_rfl
theorem op6_6d : (op6 6).dst = some 13 := by kernel_rfl
theorem op6_6g : (op6 6).guard = none := by kernel_rfl
theorem ops6_8 : ops6[8]? = some (op6 8) := by kernel_rfl
theorem op6_8o : (op6 8).op = .move (.tmp 0) := by kernel_rfl
theorem op6_8d : (op6 8).dst = some 15 := by kernel_rfl
theorem op6_8g : (op6 8).guard = none := by kernel_rfl
theorem ops6_10 : ops6[10]? = some (op6 10) := by kernel_rfl
theorem op6_10o : (op6 10).op = .move (.tmp 0) := by kernel_rfl
theorem op6_10d : (op6 10).dst = some 17 := by kernel_rfl
theorem op6_10g : (op6 10).guard = none := by kernel_rfl
theorem ops6_12 : ops6[12]? = some (op6 12) := by kernel_rfl
theorem op6_12o : (op6 12).op = .move (.tmp 0) := by kernel_rfl
theorem op6_12d : (op6 12).dst = some 19 := by kernel_rfl
theorem op6_12g : (op6 12).guard = none := by kernel_rfl
theorem yields_move {ops : Array Oper} {o : Oper} {a : Act} {t : Nat} {v : Value} (hg : o.guard = none) (ho : o.op = .move (.tmp t)) (hv : a.tmps[t]? = some v) : Yields Try.prog ops o v a := by
  left
  refine ⟨by simp [Region.wanted, hg], fun w => ?_⟩
  simp [execOp, ho, go_sem, hv]
theorem one_zero {o : Option Nat} (h : one o = 0) : ∃ b, o = some b := by
  cases o with
  | none => simp [one] at h
  | some b => exact ⟨b, rfl⟩
theorem noSel6 : Region.noSelect ops6 = true := by kernel_rfl

set_option maxHeartbeats 2000000 in
theorem region6 {ops : Array Oper} {id nT nG : Nat} {w : World} {Q : Exit → Act → World → Prop} (hops : ops = ops6) (hnT : nT ≤ 4096) (hnG : nG ≤ 65536)
    (hP : ∀ c (a : Act) (d : Nat) v w, Q (.panic c) (a.put (some d) v) w → Q (.panic c) a w)
    (hQ : ∀ b0 b1 b2 b3 b4 b5 b6 b7 w', Inv6 w w' nT nG (fun j => if j = 0 then some b0 else if j = 1 then some b1 else if j = 2 then some b2 else if j = 3 then some b3 else if j = 4 then some b4 else if j = 5 then some b5 else if j = 6 then some b6 else some b7) →
      ∀ u7 u8 u9 u10 u11 u12 u13 u14 u15 u16 u17 u18 u19 u20 u21 u22 u23, Q .normal ⟨#[.int .i64 nT, .int .i64 nG, undef, undef, .pointer none, .pointer (some ⟨w'.heap.size, 0, none⟩), undef, u7, u8, u9, u10, u11, u12, u13, u14, u15, u16, u17, u18, u19, u20, u21, u22, u23, undef, undef, undef, undef, undef, undef, undef, undef, undef, undef, undef, undef, undef, undef, undef, undef], []⟩ (w'.alloc (.cells (tab6 nT nG b0 b1 b2 b3 b4 b5 b6 b7) 51))) :
    (Code.region id ops true).wp Try.prog Q ⟨#[.int .i64 nT, .int .i64 nG, undef, undef, .pointer none, undef, undef, undef, undef, undef, undef, undef, undef, undef, undef, undef, undef, undef, undef, undef, undef, undef, undef, undef, undef, undef, undef, undef, undef, undef, undef, undef, undef, undef, undef, undef, undef, undef, undef, undef], []⟩ w := by
  subst hops
  have hlast : ∀ d w', Inv6 w w' nT nG d → cnt6 d = 0 → wpAny Try.prog .any ops6 Q 3 (lst6 d) (act6 nT nG d) w' := by
    intro d w' hi hc
    have hs : ∀ j, j < 8 → ∃ b, d j = some b := by
      intro j hj
      unfold cnt6 at hc
      have : j = 0 ∨ j = 1 ∨ j = 2 ∨ j = 3 ∨ j = 4 ∨ j = 5 ∨ j = 6 ∨ j = 7 := by omega
      rcases this with rfl | rfl | rfl | rfl | rfl | rfl | rfl | rfl <;> exact one_zero (by omega)
    obtain ⟨b0, h0⟩ := hs 0 (by decide)
    obtain ⟨b1, h1⟩ := hs 1 (by decide)
    obtain ⟨b2, h2⟩ := hs 2 (by decide)
    obtain ⟨b3, h3⟩ := hs 3 (by decide)
    obtain ⟨b4, h4⟩ := hs 4 (by decide)
    obtain ⟨b5, h5⟩ := hs 5 (by decide)
    obtain ⟨b6, h6⟩ := hs 6 (by decide)
    obtain ⟨b7, h7⟩ := hs 7 (by decide)
    have hd : ∀ j, j < 8 → (if j = 0 then some b0 else if j = 1 then some b1 else if j = 2 then some b2 else if j = 3 then some b3 else if j = 4 then some b4 else if j = 5 then some b5 else if j = 6 then some b6 else some b7) = d j := by
      intro j hj
      have : j = 0 ∨ j = 1 ∨ j = 2 ∨ j = 3 ∨ j = 4 ∨ j = 5 ∨ j = 6 ∨ j = 7 := by omega
      rcases this with rfl | rfl | rfl | rfl | rfl | rfl | rfl | rfl <;> simp [*]
    have hq := hQ b0 b1 b2 b3 b4 b5 b6 b7 w' ⟨hi.below, fun j b hj hb => hi.lie j b hj (by rw [← hd j hj]; exact hb), fun j j' b hj hj' hb hb' => hi.ap j j' b hj hj' (by rw [← hd j hj]; exact hb) (by rw [← hd j' hj']; exact hb')⟩
    have el : lst6 d = lst true true true true true true true true := by simp [lst6, h0, h1, h2, h3, h4, h5, h6, h7]
    rw [el]
    have ea : (act6 nT nG d) = act6 nT nG (fun j => if j = 0 then some b0 else if j = 1 then some b1 else if j = 2 then some b2 else if j = 3 then some b3 else if j = 4 then some b4 else if j = 5 then some b5 else if j = 6 then some b6 else some b7) := by simp [act6, h0, h1, h2, h3, h4, h5, h6, h7]
    rw [ea]
    refine wpAny_all (rs := [15]) (by kernel_rfl) (by simp) ?_
    intro i hi1
    obtain rfl : i = 15 := by simpa using hi1
    refine wpOp_gen ops6_15 op6_15g (ex15 nT nG b0 b1 b2 b3 b4 b5 b6 b7 _ _ rfl rfl rfl rfl rfl rfl rfl rfl) ?_
    rw [op6_15d]
    refine wpAny_all (rs := [16]) (by kernel_rfl) (by simp) ?_
    intro i hi1
    obtain rfl : i = 16 := by simpa using hi1
    refine wpOp_gen ops6_16 op6_16g (ex16 (tab6 nT nG b0 b1 b2 b3 b4 b5 b6 b7) _ _ rfl) ?_
    rw [op6_16d]
    refine wpAny_all (rs := [17]) (by kernel_rfl) (by simp) ?_
    intro i hi1
    obtain rfl : i = 17 := by simpa using hi1
    refine wpOp_gen ops6_17 op6_17g (ex17 _ _ _ rfl) ?_
    rw [op6_17d]
    refine wpAny_done (by kernel_rfl) ?_ _
    exact hq _ _ _ _ _ _ _ _ _ _ _ _ _ _ _ _ _
  refine wp_region_any (by kernel_rfl) ?_
  have es : ops6.size = 18 := by kernel_rfl
  rw [es]
  refine wpAny_take (v := .int .i64 (nG : Nat)) ops6_0 noSel6 (by kernel_rfl) (by kernel_rfl) (fun c a w => by rw [op6_0d]; exact hP c a _ _ w) (yields_move op6_0g op6_0o rfl) ?_
  rw [op6_0d]
  refine wpAny_take (v := .int .i64 (nG : Nat)) ops6_2 noSel6 (by kernel_rfl) (by kernel_rfl) (fun c a w => by rw [op6_2d]; exact hP c a _ _ w) (yields_move op6_2g op6_2o rfl) ?_
  rw [op6_2d]
  refine wpAny_take (v := .int .i64 (nT : Nat)) ops6_4 noSel6 (by kernel_rfl) (by kernel_rfl) (fun c a w => by rw [op6_4d]; exact hP c a _ _ w) (yields_move op6_4g op6_4o rfl) ?_
  rw [op6_4d]
  refine wpAny_take (v := .int .i64 (nT : Nat)) ops6_6 noSel6 (by kernel_rfl) (by kernel_rfl) (fun c a w => by rw [op6_6d]; exact hP c a _ _ w) (yields_move op6_6g op6_6o rfl) ?_
  rw [op6_6d]
  refine wpAny_take (v := .int .i64 (nT : Nat)) ops6_8 noSel6 (by kernel_rfl) (by kernel_rfl) (fun c a w => by rw [op6_8d]; exact hP c a _ _ w) (yields_move op6_8g op6_8o rfl) ?_
  rw [op6_8d]
  refine wpAny_take (v := .int .i64 (nT : Nat)) ops6_10 noSel6 (by kernel_rfl) (by kernel_rfl) (fun c a w => by rw [op6_10d]; exact hP c a _ _ w) (yields_move op6_10g op6_10o rfl) ?_
  rw [op6_10d]
  refine wpAny_take (v := .int .i64 (nT : Nat)) ops6_12 noSel6 (by kernel_rfl) (by kernel_rfl) (fun c a w => by rw [op6_12d]; exact hP c a _ _ w) (yields_move op6_12g op6_12o rfl) ?_
  rw [op6_12d]
  have h := makes6 hnT hnG w hlast 8 (fun _ => none) ({ w with drawn := w.drawn + 1 }) rfl ⟨⟨rfl, rfl, rfl, Nat.le_refl _, fun _ _ => rfl⟩, (fun j b _ hb => by cases hb), (fun j j' b _ _ hb => by cases hb)⟩
  exact h
end Go.Proofs.Qxb6616109a
