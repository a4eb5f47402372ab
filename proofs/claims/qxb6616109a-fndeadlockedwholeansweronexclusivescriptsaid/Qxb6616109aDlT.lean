import Derived.Test.Qxb6616109aDlS
namespace Go.Proofs.Qxb6616109a
open Go.RowKit Go.Deep Go.Joins
set_option linter.unusedSimpArgs false
set_option linter.unusedVariables false

variable {w : World}
/-- append by an equation laid ahead. -/
theorem wpList_append_by {P : Program} {ops : Array Oper} {rest : List Oper} {o : Oper} {a : Act} {w : World} {Q : Exit → Act → World → Prop} (hgd : o.guard = none) (s x : Operand) (t u : TypeId)
    (ho : o.op = .call { callee := .builtin .append, args := #[s, x], argTypes := #[t, u] }) {v y : Value} (hs : a.eval s = v) (hx : a.eval x = y) {v' : Value} {w' : World}
    (hr : (Builtin.append_ #[t, u] o.type #[v, y]).run P w = .ok v' w') (h : wpList P ops Q rest (a.put o.dst v') w') : wpList P ops Q (o :: rest) a w :=
  wpList_plain hgd fun _ hK => by
    unfold Oper.wp execOp
    simp only [ho, resolve, invoke, builtin, Sem.run_bind, Sem.run_pure, Result.andThen_ok, List.map_toArray, List.map_cons, List.map_nil, hs, hx, hr]
    exact hK _ _ h

theorem zeros_nil (m : Nat) (h0 : 0 < m) (h1 : m ≤ 65536) (ty : TypeId) (w : World) :
    (Builtin.append_ #[25, 3] ty #[.slice none 0 0, .int .i64 m]).run Try.prog w =
      .ok (.slice (some ⟨w.heap.size, 0, none⟩) m (grownCap w m 0 3)) (w.drew.alloc (.cells (Builtin.zeroCells #[.int .i64 0] m ++ Builtin.zeroCells #[.int .i64 0] (grownCap w m 0 3 - m)) 3)) := by
  obtain ⟨i, hi, hz, hs, hb⟩ := info_parts info3
  have e1 : IntKind.i64.wrap (m : Int) = m := by rw [IntKind.wrap_i64]; omega
  have e2 : ¬ ((m : Int) < 0) := by omega
  have e3 : ¬ ((m : Int) * 8 > 281474976710656) := by omega
  have e4 : ¬ (m = 0) := by omega
  have e5 : ¬ (9223372036854775807 < (m : Int)) := by omega
  have e6 : ¬ (281474976710656 < Builtin.nextslicecap m 0 * 8) := by
    have := growslice_fits (need := m) (old := 0) (bytes := 8) (by omega) (by omega)
    omega
  simp [Builtin.append_, run_underlying Try.underlying25, run_underlying Try.underlying3, sizeOf, typeInfo, zeroValue, hi, hz, hs, hb, asInt, asIntOf, e1, e2, e3, e4, e5, e6, Question.forced, Builtin.firstCells, newRow, grownCap]
  rfl

theorem zeros_some (b : Addr) (c m : Nat) (olds : List Value) (hlo : olds.length = c) (holds : ∀ j v, olds[j]? = some v → w.cell? (b.add j) = some v) (h0 : 0 < m) (h1 : c + m ≤ 65536) (ty : TypeId) :
    (Builtin.append_ #[25, 3] ty #[.slice (some b) c c, .int .i64 m]).run Try.prog w =
      .ok (.slice (some ⟨w.heap.size, 0, none⟩) (c + m) (grownCap w (c + m) c 3)) (w.drew.alloc (.cells (olds.toArray ++ Builtin.zeroCells #[.int .i64 0] m ++ Builtin.zeroCells #[.int .i64 0] (grownCap w (c + m) c 3 - (c + m))) 3)) := by
  obtain ⟨i, hi, hz, hs, hb⟩ := info_parts info3
  have e1 : IntKind.i64.wrap (m : Int) = m := by rw [IntKind.wrap_i64]; omega
  have e2 : ¬ ((m : Int) < 0) := by omega
  have e3 : ¬ ((m : Int) * 8 > 281474976710656) := by omega
  have e4 : ¬ (m = 0) := by omega
  have e5 : ¬ (9223372036854775807 < (c : Int) + (m : Int)) := by omega
  have e6 : ¬ (281474976710656 < Builtin.nextslicecap (c + m) c * 8) := by
    have := growslice_fits (need := c + m) (old := c) (bytes := 8) (by omega) (by omega)
    omega
  have hfo := run_firstCells_some (P := Try.prog) w.drew 1 c b c c olds (by omega) (by simpa using holds)
  simp [Builtin.append_, run_underlying Try.underlying25, run_underlying Try.underlying3, sizeOf, typeInfo, zeroValue, hi, hz, hs, hb, asInt, asIntOf, e1, e2, e3, e4, e5, e6, Question.forced, hfo, newRow, grownCap]
  rw [if_neg (by omega)]
  rfl

theorem zc_size (m : Nat) : (Builtin.zeroCells #[Value.int .i64 0] m).size = m := by simp [Builtin.zeroCells]

/-- What slices.Grow gives: room for k more. -/
structure Grew (N : Nat) (w w' : World) (v : Value) (n k g cap : Nat) (xs : List Value) : Prop where
  own : ∃ ys, ys.length = k ∧ w'.ownsRow N 3 1 (.slice (some ⟨g, 0, none⟩) (n + k) cap) (n + k) (xs ++ ys)
  room : n + k ≤ cap
  small : cap ≤ maxLen
  os : w'.os = w.os
  tape : w'.tape = w.tape
  output : w'.output = w.output
  size : w.heap.size ≤ w'.heap.size
  block : ∀ b, b < w.heap.size → w'.heap[b]? = w.heap[b]?
  fresh : v.ownBlock = some g ∨ w.heap.size ≤ g

set_option maxHeartbeats 1000000 in
theorem grow82_nil (k N : Nat) (w : World) (h0 : 0 < k) (h1 : k ≤ 65536) (hN : N ≤ w.heap.size) :
    Calls Try.prog 82 #[.slice none 0 0, .int .i64 k] w fun e w' => ∃ g cap, e = .returned (.slice (some ⟨g, 0, none⟩) 0 cap) ∧ Grew N w w' (.slice none 0 0) 0 k g cap [] := by
  have hr := fun ty => zeros_nil k h0 h1 ty w
  have hge := grownCap_ge w k 0 3
  have hcm : grownCap w k 0 3 ≤ maxLen := grownCap_le_maxLen w k 0 3 (by simp only [maxLen]; omega)
  have hG : Grew N w (w.drew.alloc (.cells (Builtin.zeroCells #[.int .i64 0] k ++ Builtin.zeroCells #[.int .i64 0] (grownCap w k 0 3 - k)) 3)) (.slice none 0 0) 0 k w.heap.size (grownCap w k 0 3) [] := by
    refine ⟨⟨(Builtin.zeroCells #[Value.int .i64 0] k).toList, by simp [zc_size], ?_⟩, by omega, hcm, rfl, rfl, rfl, by simp, fun b hb => heap_alloc_old w.drew _ b hb, .inr (Nat.le_refl _)⟩
    refine ⟨by simp [zc_size], .inr ⟨w.heap.size, _, _, rfl, hN, heap_alloc_new w.drew _, by omega, hcm, by simp [zc_size]; omega, ?_⟩⟩
    have e1 : (0 + k) * 1 = (Builtin.zeroCells #[Value.int .i64 0] k).toList.length := by simp [zc_size]
    rw [e1, Array.toList_append]
    exact List.take_left
  obtain ⟨cap, hcap⟩ : ∃ cap, grownCap w k 0 3 = cap := ⟨_, rfl⟩
  obtain ⟨w1, hw1⟩ : ∃ w1, (w.drew.alloc (.cells (Builtin.zeroCells #[.int .i64 0] k ++ Builtin.zeroCells #[.int .i64 0] (grownCap w k 0 3 - k)) 3)) = w1 := ⟨_, rfl⟩
  rw [hw1] at hr hG
  rw [hcap] at hr hG hge hcm
  have HG : Hid (Grew N w w1 (.slice none 0 0) 0 k w.heap.size cap []) := hG
  obtain ⟨g, hg⟩ : ∃ g, w.heap.size = g := ⟨_, rfl⟩
  rw [hg] at hr HG
  clear hG hw1 hcap
  simp only [maxLen] at hcm
  go_enter Try.func82, Try.ntmps82
  go_wp2_with (at_builtin; refine wpList_append_by rfl (.tmp 20) (.tmp 21) 25 3 rfl rfl rfl (hr _) ?_)
  go_ret
  exact ⟨g, cap, rfl, HG.out⟩

set_option maxHeartbeats 1000000 in
theorem grow82_room (g n cap k N : Nat) (xs : List Value) (w : World) (hown : w.ownsRow N 3 1 (.slice (some ⟨g, 0, none⟩) n cap) n xs) (h0 : 0 < k) (h1 : n + k ≤ 65536) (hr : n + k ≤ cap) :
    Calls Try.prog 82 #[.slice (some ⟨g, 0, none⟩) n cap, .int .i64 k] w fun e w' => ∃ g' cap', e = .returned (.slice (some ⟨g', 0, none⟩) n cap') ∧ Grew N w w' (.slice (some ⟨g, 0, none⟩) n cap) n k g' cap' xs := by
  rcases hown.2 with ⟨e, _⟩ | ⟨g', cap', cur, e, hbg, hg, hnc, hcm, hcs, htake⟩
  · cases e
  simp only [Value.slice.injEq, Option.some.injEq, Addr.mk.injEq] at e
  obtain ⟨⟨rfl, _⟩, _, rfl⟩ := e
  have hG : Grew N w w (.slice (some ⟨g, 0, none⟩) n cap) n k g cap xs := by
    refine ⟨⟨(cur.toList.drop n).take k, by simp; omega, by simp [hown.1]; omega, .inr ⟨g, cap, cur, rfl, hbg, hg, hr, hcm, hcs, ?_⟩⟩, hr, hcm, rfl, rfl, rfl, Nat.le_refl _, fun _ _ => rfl, .inl rfl⟩
    simp only [Nat.mul_one] at htake ⊢
    rw [List.take_add, htake]
  have HG : Hid (Grew N w w (.slice (some ⟨g, 0, none⟩) n cap) n k g cap xs) := hG
  clear hG hown hg hcs htake
  simp only [maxLen] at hcm
  have t1 : decide ((0 : Int) < (k : Int) - ((cap : Int) - (n : Int))) = false := decide_eq_false (by omega)
  go_enter Try.func82, Try.ntmps82
  go_wp2
  go_ret
  exact ⟨g, cap, rfl, HG.out⟩

set_option maxHeartbeats 1000000 in
theorem grow82_more (g n cap k N : Nat) (xs : List Value) (w : World) (hown : w.ownsRow N 3 1 (.slice (some ⟨g, 0, none⟩) n cap) n xs) (h0 : 0 < k) (h1 : n + k ≤ 65536) (hr : cap < n + k) (hN : N ≤ w.heap.size) :
    Calls Try.prog 82 #[.slice (some ⟨g, 0, none⟩) n cap, .int .i64 k] w fun e w' => ∃ g' cap', e = .returned (.slice (some ⟨g', 0, none⟩) n cap') ∧ Grew N w w' (.slice (some ⟨g, 0, none⟩) n cap) n k g' cap' xs := by
  rcases hown.2 with ⟨e, _⟩ | ⟨g', cap', cur, e, hbg, hg, hnc, hcm, hcs, htake⟩
  · cases e
  simp only [Value.slice.injEq, Option.some.injEq, Addr.mk.injEq] at e
  obtain ⟨⟨rfl, _⟩, _, rfl⟩ := e
  obtain ⟨m, hm⟩ : ∃ m, k - (cap - n) = m := ⟨_, rfl⟩
  have hmi : (k : Int) - ((cap : Int) - (n : Int)) = (m : Int) := by omega
  have holds : ∀ j v, cur.toList[j]? = some v → w.cell? ((⟨g, 0, none⟩ : Addr).add j) = some v := fun j v hv => by
    have hadd : (⟨g, 0, none⟩ : Addr).add j = ⟨g, j, none⟩ := by unfold Addr.add; split <;> simp_all
    rw [hadd, Joins.cell_of_block hg]
    simpa using hv
  have hrun := fun ty => zeros_some (w := w) ⟨g, 0, none⟩ cap m cur.toList (by simp; omega) holds (by omega) (by omega) ty
  have hge := grownCap_ge w (cap + m) cap 3
  have hcm' : grownCap w (cap + m) cap 3 ≤ maxLen := grownCap_le_maxLen w (cap + m) cap 3 (by simp only [maxLen]; omega)
  have hG : Grew N w (w.drew.alloc (.cells (cur.toList.toArray ++ Builtin.zeroCells #[.int .i64 0] m ++ Builtin.zeroCells #[.int .i64 0] (grownCap w (cap + m) cap 3 - (cap + m))) 3)) (.slice (some ⟨g, 0, none⟩) n cap) n k w.heap.size (grownCap w (cap + m) cap 3) xs := by
    refine ⟨⟨cur.toList.drop n ++ (Builtin.zeroCells #[Value.int .i64 0] m).toList, by simp [zc_size]; omega, by simp [zc_size, hown.1]; omega, .inr ⟨w.heap.size, _, _, rfl, hN, heap_alloc_new w.drew _, by omega, hcm', by simp [zc_size]; omega, ?_⟩⟩, by omega, hcm', rfl, rfl, rfl, by simp, fun b hb => heap_alloc_old w.drew _ b hb, .inr (Nat.le_refl _)⟩
    simp only [Nat.mul_one] at htake ⊢
    have e1 : xs ++ (cur.toList.drop n ++ (Builtin.zeroCells #[Value.int .i64 0] m).toList) = cur.toList ++ (Builtin.zeroCells #[Value.int .i64 0] m).toList := by
      rw [← htake, ← List.append_assoc, List.take_append_drop]
    rw [e1]
    have e2 : n + k = (cur.toList ++ (Builtin.zeroCells #[Value.int .i64 0] m).toList).length := by simp [zc_size]; omega
    rw [e2, Array.toList_append, Array.toList_append, List.toList_toArray]
    exact List.take_left
  obtain ⟨cap2, hcap⟩ : ∃ cap2, grownCap w (cap + m) cap 3 = cap2 := ⟨_, rfl⟩
  obtain ⟨w1, hw1⟩ : ∃ w1, (w.drew.alloc (.cells (cur.toList.toArray ++ Builtin.zeroCells #[.int .i64 0] m ++ Builtin.zeroCells #[.int .i64 0] (grownCap w (cap + m) cap 3 - (cap + m))) 3)) = w1 := ⟨_, rfl⟩
  rw [hw1] at hrun hG
  rw [hcap] at hrun hG hge hcm'
  have HG : Hid (Grew N w w1 (.slice (some ⟨g, 0, none⟩) n cap) n k w.heap.size cap2 xs) := hG
  obtain ⟨g2, hg2⟩ : ∃ g, w.heap.size = g := ⟨_, rfl⟩
  rw [hg2] at hrun HG
  clear hG hw1 hcap hown hg hcs htake holds
  simp only [maxLen] at hcm'
  have t1 : decide ((0 : Int) < (m : Int)) = true := decide_eq_true (by omega)
  go_enter Try.func82, Try.ntmps82
  go_wp2_with (at_builtin; refine wpList_append_by rfl (.tmp 20) (.tmp 21) 25 3 rfl rfl rfl (hrun _) ?_)
  go_ret
  exact ⟨g2, cap2, rfl, HG.out⟩

theorem grow82 (v : Value) (n k N : Nat) (xs : List Value) (w : World) (hown : w.ownsRow N 3 1 v n xs) (h0 : 0 < k) (h1 : n + k ≤ 65536) (hN : N ≤ w.heap.size) :
    Calls Try.prog 82 #[v, .int .i64 k] w fun e w' => ∃ g' cap', e = .returned (.slice (some ⟨g', 0, none⟩) n cap') ∧ Grew N w w' v n k g' cap' xs := by
  rcases ownsRow_forms hown with ⟨rfl, rfl⟩ | ⟨g, cap, rfl⟩
  · have hx : xs = [] := List.eq_nil_of_length_eq_zero (by simpa using hown.1)
    subst hx
    exact grow82_nil k N w h0 (by omega) hN
  · by_cases hr : n + k ≤ cap
    · exact grow82_room g n cap k N xs w hown h0 h1 hr
    · exact grow82_more g n cap k N xs w hown h0 h1 (by omega) hN
end Go.Proofs.Qxb6616109a
