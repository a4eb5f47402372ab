import Derived.Test.Qxb6616151aBase
namespace Go.Proofs.Qxb6616151a
open Go.RowKit Go.Deep Go.Joins

/-- A string's bytes as integers. -/
def bys (s : ByteArray) : List Int := s.data.toList.map fun b => (b.toNat : Int)
theorem bys_length (s : ByteArray) : (bys s).length = s.size := by
  unfold bys; rw [List.length_map, Array.length_toList]; rfl
theorem byteCells_bys (s : ByteArray) : byteCells s = u8s (bys s) := by
  unfold byteCells u8s bys; rw [List.map_map]; rfl

theorem run_append_str {P : Program} (w : World) (lo : Nat) (t tx ty e : TypeId) (i : TypeInfo) (z : Value) (ht : P.underlying t = some (.slice e)) (htx : P.underlying tx = some .string) (hi : P.info? e = some i) (hz : i.zero = some z)
    (hsize : i.size = 1) (hby : i.bytes = 1) (hzs : z.cells.size = 1) (g0 cap0 : Nat)
    (n : Nat) (xs : List Value) (hown : w.ownsRow lo e 1 (.slice (some ⟨g0, 0, none⟩) n cap0) n xs) (s : ByteArray)
    (hbytes : n + s.size ≤ 140737488355328) (hlo : lo ≤ w.heap.size) :
    ∃ g cap w', (Builtin.append_ #[t, tx] ty #[.slice (some ⟨g0, 0, none⟩) n cap0, .string s]).run P w = .ok (.slice (some ⟨g, 0, none⟩) (n + s.size) cap) w' ∧ w'.ownsRow lo e 1 (.slice (some ⟨g, 0, none⟩) (n + s.size) cap) (n + s.size) (xs ++ byteCells s) ∧
      Grew w w' (.slice (some ⟨g0, 0, none⟩) n cap0) (.slice (some ⟨g, 0, none⟩) (n + s.size) cap) := by
  have hsrc : Src P i.size tx (.string s) s.size (byteCells s) w := by rw [hsize]; exact Src.ofString w htx s
  have hbl := byteCells_length s
  have hxl : xs.length = n := by simpa using hown.1
  obtain ⟨hl0, hfm⟩ := hown
  rcases hfm with ⟨hbad, _⟩ | ⟨g', cap', cur, hv, hbg, hg, hnc, hcm, hcs, htake⟩
  · cases hbad
  simp only [Value.slice.injEq, Option.some.injEq, Addr.mk.injEq] at hv
  obtain ⟨⟨rfl, _, _⟩, _, rfl⟩ := hv
  have hlen : (xs ++ byteCells s).length = (n + s.size) * 1 := by rw [List.length_append, hbl, hxl, Nat.mul_one]
  by_cases hroom : n + s.size ≤ cap0
  · have hst := run_storeCells_at P g0 n e (byteCells s) 0 cur w hg (by omega) hsrc.one
    simp only [Nat.add_zero] at hst
    have hc1 := hsrc.cells
    rw [hsize] at hc1
    have hr : (Builtin.append_ #[t, tx] ty #[.slice (some ⟨g0, 0, none⟩) n cap0, .string s]).run P w = .ok (.slice (some ⟨g0, 0, none⟩) (n + s.size) cap0) (w.setRow g0 (cur.toList.take n ++ byteCells s ++ cur.toList.drop (n + (byteCells s).length)).toArray) := by
      simp [Builtin.append_, run_underlying ht, run_underlying htx, sizeOf, typeInfo, hi, hsize, hsrc.len, hroom, hc1, Addr.add_lit, hst]
    refine ⟨g0, cap0, _, hr, ⟨hlen, .inr ⟨g0, cap0, _, rfl, hbg, setRow_heap w g0 cur _ e _ hg, hroom, hcm, ?_, ?_⟩⟩, ⟨⟨rfl, rfl, rfl, by simp, fun k _ hk => setRow_other w g0 k _ (fun e => hk (by simp [Value.ownBlock, e]))⟩, fun b hb => Or.inl hb⟩⟩
    · simp only [List.size_toArray, List.length_append, List.length_take, List.length_drop, Array.length_toList]
      omega
    · rw [Nat.mul_one] at htake
      rw [htake, ← hlen]
      exact List.take_left
  · have hold : (Builtin.firstCells i.size n (.slice (some ⟨g0, 0, none⟩) n cap0)).run P w.drew = .ok xs.toArray w.drew := by
      rw [hsize]
      refine run_firstCells_some w.drew 1 n ⟨g0, 0, none⟩ n cap0 xs hl0 (fun j u hu => ?_)
      have hh : w.ownsRow lo e 1 (.slice (some ⟨g0, 0, none⟩) n cap0) n xs := ⟨hl0, .inr ⟨g0, cap0, cur, rfl, hbg, hg, hnc, hcm, hcs, htake⟩⟩
      exact hh.cells (g := g0) rfl j u hu
    have hr := run_append_grow_src (P := P) w t tx ty e i z ht hi hz (some ⟨g0, 0, none⟩) n cap0 xs hold (.string s) s.size (byteCells s) hsrc (by omega) (by omega) (growslice_fits (by omega) (by rw [hby]; omega))
    have hge := grownCap_ge w (n + s.size) cap0 e
    have hcm' : grownCap w (n + s.size) cap0 e ≤ maxLen := grownCap_le_maxLen w (n + s.size) cap0 e (by unfold maxLen; omega)
    refine ⟨w.heap.size, _, _, hr, ⟨hlen, .inr ⟨w.heap.size, _, _, rfl, hlo, heap_alloc_new w.drew _, hge, hcm', ?_, ?_⟩⟩, ⟨⟨rfl, rfl, rfl, by simp, fun k hk _ => blk_alloc_lt w.drew _ k hk⟩, fun b hb => ?_⟩⟩
    · simp only [Array.size_append, List.size_toArray, size_zeroCells, hzs]
      rw [hlen]
      omega
    · simp only [Array.toList_append]
      rw [← hlen]
      exact List.take_left
    · simp only [Value.ownBlock, Option.some.injEq] at hb
      subst hb
      exact Or.inr (Nat.le_refl _)

theorem wpList_append_str {P : Program} (w : World) {ops : Array Oper} {rest : List Oper} {o : Oper} {a : Act} {Q : Exit → Act → World → Prop} (hgd : o.guard = none) (sl x : Operand) (t tx : TypeId)
    (ho : o.op = .call { callee := .builtin .append, args := #[sl, x], argTypes := #[t, tx] })
    (lo : Nat) (e : TypeId) (i : TypeInfo) (z : Value) (ht : P.underlying t = some (.slice e)) (htx : P.underlying tx = some .string) (hi : P.info? e = some i) (hz : i.zero = some z)
    (hsize : i.size = 1) (hby : i.bytes = 1) (hzs : z.cells.size = 1) (g0 cap0 : Nat)
    (n : Nat) (xs : List Value) (hown : w.ownsRow lo e 1 (.slice (some ⟨g0, 0, none⟩) n cap0) n xs) (s : ByteArray)
    (hbytes : n + s.size ≤ 140737488355328) (hlo : lo ≤ w.heap.size)
    (hs : a.eval sl = .slice (some ⟨g0, 0, none⟩) n cap0) (hx : a.eval x = .string s)
    (h : ∀ g cap w', w'.ownsRow lo e 1 (.slice (some ⟨g, 0, none⟩) (n + s.size) cap) (n + s.size) (xs ++ byteCells s) → Grew w w' (.slice (some ⟨g0, 0, none⟩) n cap0) (.slice (some ⟨g, 0, none⟩) (n + s.size) cap) → wpList P ops Q rest (a.put o.dst (.slice (some ⟨g, 0, none⟩) (n + s.size) cap)) w') : wpList P ops Q (o :: rest) a w := by
  refine wpList_plain hgd fun K hK => ?_
  obtain ⟨g, cap, w', hr, h2, h3⟩ := run_append_str (P := P) w lo t tx o.type e i z ht htx hi hz hsize hby hzs g0 cap0 n xs hown s hbytes hlo
  unfold Oper.wp
  simp [execOp, ho, resolve, invoke, builtin, hs, hx, hr, Result.andThen]
  exact hK _ _ (h g cap w' h2 h3)
end Go.Proofs.Qxb6616151a
