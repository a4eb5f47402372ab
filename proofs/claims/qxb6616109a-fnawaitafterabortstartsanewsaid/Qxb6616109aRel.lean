import Derived.Test.Qxb6616109aTs
namespace Go.Proofs.Qxb6616109a
open Go.RowKit Go.Deep Go.Joins

theorem ts_pend {w : World} {lo hi N p gW gP n : Nat} {vs : Nat → Value} {zs : Nat → List Int} {o : Nat} (hl : Lie lo hi N p gW gP) (hts : Ts w lo hi N p gW gP n vs zs) :
    Ts (w.setCell ⟨gP, o, none⟩ (.slice none 0 0)) lo hi N p gW gP n vs zs ∧ Same lo hi N gW gP w (w.setCell ⟨gP, o, none⟩ (.slice none 0 0)) := by
  obtain ⟨l1, l2, l3, l4, l5⟩ := hl
  have hb : ∀ b, b ≠ gP → (w.setCell ⟨gP, o, none⟩ (.slice none 0 0)).heap[b]? = w.heap[b]? := fun b h => Below.heap_setCell _ _ _ _ (by simpa using h)
  have hc : ∀ i, (w.setCell ⟨gP, o, none⟩ (.slice none 0 0)).cell? ⟨p, i, none⟩ = w.cell? ⟨p, i, none⟩ := fun i => World.cell?_of_block (hb p (by omega))
  refine ⟨⟨(hc 4).trans hts.c4, (hc 5).trans hts.c5, (hc 6).trans hts.c6, (hc 7).trans hts.c7, ?_, ⟨?_, ?_, hts.jag.ap⟩, hts.far, ?_⟩, ⟨rfl, rfl, rfl, ?_, ?_⟩⟩
  · exact (hts.pend.set o _).congr fun i _ => by split <;> rfl
  · exact hts.jag.outer.setOther (by simp; omega) _
  · intro r hr
    refine ownsRow_setCell_other (hts.jag.row r hr) ?_ _
    intro h
    have h1 := hts.far r _ hr h
    simp at h1
    omega
  · rw [nblk_setCell]; exact hts.size
  · rw [nblk_setCell]; exact Nat.le_refl _
  · intro k h1 h2 h3 h4
    exact hb k h4

theorem ts_drew {w : World} {lo hi N p gW gP n : Nat} {vs : Nat → Value} {zs : Nat → List Int} (hts : Ts w lo hi N p gW gP n vs zs) : Ts w.drew lo hi N p gW gP n vs zs :=
  ⟨hts.c4, hts.c5, hts.c6, hts.c7, hts.pend, ⟨hts.jag.outer, hts.jag.row, hts.jag.ap⟩, hts.far, hts.size⟩
theorem same_drew {lo hi N gW gP : Nat} {w w' : World} (h : Same lo hi N gW gP w w') : Same lo hi N gW gP w w'.drew := ⟨h.os, h.tape, h.output, h.size, h.block⟩

theorem rel_key {w : World} {lo hi N p gW gP n : Nat} {vs : Nat → Value} {zs : Nat → List Int} {o : Nat} {A : Option Addr} {c : Nat} (hl : Lie lo hi N p gW gP) (hts : Ts w lo hi N p gW gP n vs zs) (ho : o < n) (hv : vs o = .slice A (zs o).length c) :
    (w.setCell ⟨gP, o, none⟩ (.slice none 0 0)).cell? ⟨p, 5, none⟩ = some (.slice (some ⟨gW, 0, none⟩) n n) ∧ (w.setCell ⟨gP, o, none⟩ (.slice none 0 0)).cell? ⟨gW, o, none⟩ = some (.slice A (zs o).length c) ∧ (w.setCell ⟨gP, o, none⟩ (.slice none 0 0)).frozen? ⟨gW, o, none⟩ = false ∧
      Ts ((w.setCell ⟨gP, o, none⟩ (.slice none 0 0)).setCell ⟨gW, o, none⟩ (.slice none 0 0)).drew lo hi N p gW gP n (putAt vs o (.slice none 0 0)) (putL zs o []) ∧ Same lo hi N gW gP w ((w.setCell ⟨gP, o, none⟩ (.slice none 0 0)).setCell ⟨gW, o, none⟩ (.slice none 0 0)).drew ∧
      Cells ((w.setCell ⟨gP, o, none⟩ (.slice none 0 0)).setCell ⟨gW, o, none⟩ (.slice none 0 0)).drew A (zs o).length (fun i => .int .i64 ((zs o).getD i 0)) := by
  have hs := ts_pend (o := o) hl hts
  have k := ts_store (w1 := w.setCell ⟨gP, o, none⟩ (.slice none 0 0)) (v := .slice none 0 0) (l := []) hl hs.1 ho rfl rfl rfl (Nat.le_refl _) (fun _ _ _ => rfl) (World.ownsRow_nil _ _ _ _) (fun b hb => by simp [Value.ownBlock] at hb)
  rw [hv] at k
  refine ⟨k.1, k.2.1, k.2.2.1, ts_drew k.2.2.2.1, same_drew (hs.2.trans k.2.2.2.2), ?_⟩
  have hr := ownsRow_setCell_other (hs.1.jag.row o ho) (a := ⟨gW, o, none⟩) (fun h => by have := ((hts.jag.row o ho).lt _ h).1; have := hl.h1; simp at *; omega) (.slice none 0 0)
  rw [hv] at hr
  obtain ⟨A', c', e, hc⟩ := own_cells hr
  simp only [Value.slice.injEq] at e
  obtain ⟨rfl, _, rfl⟩ := e
  exact hc

theorem nowake27 (x : Int) (w : World) : Calls Try.prog 27 #[.int .i64 x] w fun e w' => e = .returned (.tuple #[]) ∧ w' = w := by
  go_enter Try.func27, Try.ntmps27
  go_wp2
  go_end0
  exact ⟨rfl, rfl⟩

set_option maxHeartbeats 1000000 in
theorem release49 (lo hi N p gW gP n : Nat) (vs : Nat → Value) (zs : Nat → List Int) (o : Nat) (w : World) (hl : Lie lo hi N p gW gP) (hts : Ts w lo hi N p gW gP n vs zs) (ho : o < n) (_hn : n ≤ 1048576) (hb : (zs o).length ≤ 1048576) :
    Calls Try.prog 49 #[.pointer (some ⟨p, 0, none⟩), .int .i64 o] w fun e w' => e = .returned (.tuple #[]) ∧ (∃ vs', Ts w' lo hi N p gW gP n vs' (putL zs o [])) ∧ Same lo hi N gW gP w w' := by
  have c4 := hts.c4
  have hp1 : w.cell? ⟨gP, o, none⟩ = some (.slice none 0 0) := hts.pend.cell ho
  have hp2 : w.frozen? ⟨gP, o, none⟩ = false := hts.pend.frozen o
  obtain ⟨A, c, hv, _⟩ := own_cells (hts.jag.row o ho)
  obtain ⟨k1, k2, k3, k4, k5, k6⟩ := rel_key hl hts ho hv
  have K4 := k4.c6
  clear hts hv
  go_enter Try.func49, Try.ntmps49
  go_wp2
  refine wp_loop_once ?_
  go_wp2
  go_region
  go_wp2
  go_loop [57, 8] (fun i _ => ∃ k : Nat, k ≤ (zs o).length ∧ i = .int .i64 k) (fun i _ => (zs o).length - (intOf i).toNat)
  case atStart => exact ⟨0, Nat.zero_le _, rfl⟩
  case round =>
    obtain ⟨k, hk, rfl⟩ := hrel
    by_cases hlt : k < (zs o).length
    · obtain ⟨b, off, rfl, _, hcc⟩ := k6.lit (by omega)
      have hck := hcc k hlt
      clear hcc k6
      go_wp2_with (go_at_call 27; refine (nowake27 _ _).mono ?_; rintro e w' ⟨rfl, rfl⟩)
      go_round
      case rel => exact ⟨k + 1, by omega, by go_num⟩
      case measure => simp [intOf]; omega
    · go_wp2
      go_end0
      exact ⟨rfl, ⟨_, k4⟩, k5⟩

set_option maxHeartbeats 1000000 in
theorem abort28 (lo hi N p gW gP n : Nat) (vs : Nat → Value) (zs : Nat → List Int) (o : Nat) (w : World) (hl : Lie lo hi N p gW gP) (hts : Ts w lo hi N p gW gP n vs zs) (ho : o < n) (hn : n ≤ 1048576) (hb : (zs o).length ≤ 1048576) :
    Calls Try.prog 28 #[.pointer (some ⟨p, 0, none⟩), .int .i64 o] w fun e w' => e = .returned (.tuple #[]) ∧ (∃ vs', Ts w' lo hi N p gW gP n vs' (putL zs o [])) ∧ Same lo hi N gW gP w w' := by
  have c7 := hts.c7
  go_enter Try.func28, Try.ntmps28
  go_wp2_with fail
  refine (release49 lo hi N p gW gP n vs zs o w hl hts ho hn hb).mono ?_
  rintro e w1 ⟨rfl, h1, h2⟩
  go_wp2
  go_end0
  exact ⟨rfl, h1, h2⟩

set_option maxHeartbeats 1000000 in
theorem abort15 (lo hi N p gW gP n : Nat) (vs : Nat → Value) (zs : Nat → List Int) (o : Nat) (w : World) (hl : Lie lo hi N p gW gP) (hts : Ts w lo hi N p gW gP n vs zs) (ho : o < n) (hn : n ≤ 1048576) (hb : (zs o).length ≤ 1048576) :
    Calls Try.prog 15 #[.pointer (some ⟨p, 0, none⟩), .int .i64 o] w fun e w' => e = .returned (.tuple #[]) ∧ (∃ vs', Ts w' lo hi N p gW gP n vs' (putL zs o [])) ∧ Same lo hi N gW gP w w' := by
  go_enter Try.func15, Try.ntmps15
  go_wp2_with fail
  refine (abort28 lo hi N p gW gP n vs zs o w hl hts ho hn hb).mono ?_
  rintro e w1 ⟨rfl, h1, h2⟩
  go_wp2
  go_end0
  exact ⟨rfl, h1, h2⟩

set_option maxHeartbeats 1000000 in
theorem await16 (lo hi N p gW gP n : Nat) (vs : Nat → Value) (zs : Nat → List Int) (tx : Int) (o : Nat) (w : World) (hl : Lie lo hi N p gW gP) (hts : Ts w lo hi N p gW gP n vs zs) (ho : o < n) (hn : n ≤ 1048576) (hb : (zs o).length ≤ 1048576) :
    Calls Try.prog 16 #[.pointer (some ⟨p, 0, none⟩), .int .i64 tx, .int .i64 o] w fun e w' => e = .returned (.tuple #[]) ∧ (∃ vs', Ts w' lo hi N p gW gP n vs' (putL zs o (zs o ++ [tx]))) ∧ Same lo hi N gW gP w w' := by
  go_enter Try.func16, Try.ntmps16
  go_wp2_with fail
  refine (await29 lo hi N p gW gP n vs zs tx o w hl hts ho hn hb).mono ?_
  rintro e w1 ⟨rfl, h1, h2⟩
  go_wp2
  go_end0
  exact ⟨rfl, h1, h2⟩

set_option maxHeartbeats 1000000 in
theorem waiters17 (p gW n : Nat) (w : World) (c5 : w.cell? ⟨p, 5, none⟩ = some (.slice (some ⟨gW, 0, none⟩) n n)) :
    Calls Try.prog 17 #[.pointer (some ⟨p, 0, none⟩)] w fun e w' => e = .returned (.slice (some ⟨gW, 0, none⟩) n n) ∧ w' = w := by
  go_enter Try.func17, Try.ntmps17
  go_wp2
  go_ret
  exact ⟨rfl, rfl⟩

/-- What ZZnewTimestamps lays. -/
def tsCells (z : Array Value) (A0 : Option Addr) (n0 c0 : Nat) (A1 : Option Addr) (n1 c1 : Nat) : Array Value :=
  ((z.setIfInBounds 5 (.slice A0 n0 c0)).setIfInBounds 4 (.slice A1 n1 c1)).setIfInBounds 6 (.func (Fn.func 27) #[] #[])

theorem zero74 : Try.zeroCells74[7]? = some (.bool false) := by kernel_rfl

set_option maxHeartbeats 1000000 in
theorem new14 (A0 A1 : Option Addr) (n0 c0 n1 c1 : Nat) (w : World) :
    Calls Try.prog 14 #[.slice A0 n0 c0, .slice A1 n1 c1] w fun e w' => e = .returned (.pointer (some ⟨w.heap.size, 0, none⟩)) ∧ w' = w.alloc (.cells (tsCells Try.zeroCells74 A0 n0 c0 A1 n1 c1) 74) := by
  go_enter Try.func14, Try.ntmps14
  go_wp2
  go_ret
  exact ⟨rfl, rfl⟩

theorem ts_made {w : World} {lo hi gW n : Nat} {vs : Nat → Value} {zs : Nat → List Int} {w1 : World} (hj : Jag w lo gW n n vs zs) (hhi : hi ≤ w.heap.size) (hlo : gW < lo) (hlt : lo ≤ hi) (hb : ∀ r b, r < n → (vs r).ownBlock = some b → b < hi)
    (h1 : w1 = (w.alloc (.cells (madeCells #[.slice none 0 0] n) 25)).alloc (.cells (tsCells Try.zeroCells74 (some ⟨gW, 0, none⟩) n n (some ⟨w.heap.size, 0, none⟩) n n) 74)) :
    Lie lo hi (w.heap.size + 2) (w.heap.size + 1) gW w.heap.size ∧ Ts w1 lo hi (w.heap.size + 2) (w.heap.size + 1) gW w.heap.size n vs zs := by
  subst h1
  have hs1 : (w.alloc (.cells (madeCells #[.slice none 0 0] n) 25)).heap.size = w.heap.size + 1 := nblk_alloc _ _
  have hcell : ∀ i, ((w.alloc (.cells (madeCells #[.slice none 0 0] n) 25)).alloc (.cells (tsCells Try.zeroCells74 (some ⟨gW, 0, none⟩) n n (some ⟨w.heap.size, 0, none⟩) n n) 74)).cell? ⟨w.heap.size + 1, i, none⟩ = (tsCells Try.zeroCells74 (some ⟨gW, 0, none⟩) n n (some ⟨w.heap.size, 0, none⟩) n n)[i]? := fun i =>
    Joins.cell_of_block (by rw [← hs1]; exact blk_alloc_new _ _) i
  refine ⟨⟨hlo, hlt, hhi, by omega, by omega⟩, ⟨?_, ?_, ?_, ?_, ?_, ⟨?_, ?_, hj.ap⟩, ?_, ?_⟩⟩
  · rw [hcell]; simp [tsCells]
  · rw [hcell]; simp [tsCells]
  · rw [hcell]; simp [tsCells]
  · rw [hcell]; unfold tsCells; rw [Array.getElem?_setIfInBounds, if_neg (by decide), Array.getElem?_setIfInBounds, if_neg (by decide), Array.getElem?_setIfInBounds, if_neg (by decide)]; exact zero74
  · exact (World.rowIs_made w _ n 25).alloc _
  · exact (hj.outer.alloc _).alloc _
  · intro r hr; exact ((hj.row r hr).alloc _).alloc _
  · intro r b hr h; exact Or.inl (hb r b hr h)
  · simp
end Go.Proofs.Qxb6616109a
