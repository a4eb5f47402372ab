import Derived.Test.Qxb6616154aBase
namespace Go.Proofs.Qxb6616154a
open Go.RowKit Go.Deep Go.Joins
theorem set4 (w : World) (c : Array Value) (t : TypeId) (d i0 i1 i2 i3 : Nat) (v0 v1 v2 v3 : Value) :
    (((((w.alloc (.cells c t)).drewN d).setCell ⟨w.heap.size, i0, none⟩ v0).setCell ⟨w.heap.size, i1, none⟩ v1).setCell ⟨w.heap.size, i2, none⟩ v2).setCell ⟨w.heap.size, i3, none⟩ v3 =
      (w.alloc (.cells ((((c.setIfInBounds i0 v0).setIfInBounds i1 v1).setIfInBounds i2 v2).setIfInBounds i3 v3) t)).drewN d := by
  show (((((w.alloc (.cells c t)).setCell ⟨w.heap.size, i0, none⟩ v0).setCell ⟨w.heap.size, i1, none⟩ v1).setCell ⟨w.heap.size, i2, none⟩ v2).setCell ⟨w.heap.size, i3, none⟩ v3).drewN d = _
  rw [World.setCell_alloc_new, World.setCell_alloc_new, World.setCell_alloc_new, World.setCell_alloc_new]

/-- One more entry is laid. -/
theorem fill4 {c : Array Value} {l : List Ent} {k : Nat} {a b : ByteArray} {z : Int} (hs : k * 4 + 3 < c.size) (h : ∀ j, j < k * 4 → c[j]? = (cellsE l)[j]?) (hk : k < l.length) (he : l[k] = ⟨a, z, b⟩) :
    ∀ j, j < (k + 1) * 4 → ((((c.setIfInBounds (k * 4) (.string a)).setIfInBounds (k * 4 + 1) (.int .i64 z)).setIfInBounds (k * 4 + 2) (.string b)).setIfInBounds (k * 4 + 3) (.pointer none))[j]? = (cellsE l)[j]? := by
  intro j hj
  have e0 := cellsE_at l k 0 hk (by omega)
  have e1 := cellsE_at l k 1 hk (by omega)
  have e2 := cellsE_at l k 2 hk (by omega)
  have e3 := cellsE_at l k 3 hk (by omega)
  rw [he] at e0 e1 e2 e3
  simp only [Array.getElem?_setIfInBounds, Array.size_setIfInBounds]
  by_cases h3 : j = k * 4 + 3
  · subst h3; rw [e3]; simp [encE, hs]
  by_cases h2 : j = k * 4 + 2
  · subst h2; rw [e2]; simp [encE, show k * 4 + 2 < c.size by omega]
  by_cases h1 : j = k * 4 + 1
  · subst h1; rw [e1]; simp [encE, show k * 4 + 1 < c.size by omega]
  by_cases h0 : j = k * 4
  · subst h0; rw [Nat.add_zero] at e0; rw [e0]; simp [encE, show k * 4 < c.size by omega]
  · rw [if_neg (by omega), if_neg (by omega), if_neg (by omega), if_neg (by omega)]
    exact h j (by omega)

theorem fill_all {c : Array Value} {l : List Ent} (hs : c.size = l.length * 4) (h : ∀ j, j < l.length * 4 → c[j]? = (cellsE l)[j]?) : c = (cellsE l).toArray := by
  apply Array.ext_getElem?
  intro j
  have hl := cellsE_length l
  by_cases hj : j < l.length * 4
  · rw [h j hj]; simp
  · rw [Array.getElem?_eq_none (by omega), Array.getElem?_eq_none (by simp; omega)]

set_option maxHeartbeats 1000000 in
theorem build8 (A0 A1 A2 : Option Addr) (n c0 c1 c2 : Nat) (nm vl : Nat → ByteArray) (ln : Nat → Int) (w : World) (hn : n ≤ 1048576)
    (h0 : Cells w A0 n (fun i => .string (nm i))) (h1 : Cells w A1 n (fun i => .int .i64 (ln i))) (h2 : Cells w A2 n (fun i => .string (vl i))) :
    Calls Try.prog 8 #[.slice A0 n c0, .slice A1 n c1, .slice A2 n c2] w fun e w' => e = .returned (.slice (some ⟨w.heap.size, 0, none⟩) n n) ∧ ∃ d, w' = (w.alloc (.cells (cellsE ((List.range n).map fun i => ⟨nm i, ln i, vl i⟩)).toArray 32)).drewN d := by
  obtain ⟨i32, hi32, hz0, hz1, hz2⟩ := info_parts info32
  have hmk : ∀ w, (Instr.makeSlice 26 (.int .i64 (n : Int)) (.int .i64 (n : Int))).run Try.prog w = .ok (.slice (some ⟨w.heap.size, 0, none⟩) n n) (w.alloc (.cells (madeCells #[.string ⟨#[]⟩, .int .i64 0, .string ⟨#[]⟩, .pointer none] (n * 4)) 32)) := by
    intro w
    have h := run_make (P := Try.prog) w 26 32 i32 _ Try.underlying26 hi32 hz0 .i64 .i64 n n (by omega) (Int.le_refl _) (by rw [hz2]; omega) (by omega)
    rw [hz1] at h
    simp only [Int.toNat_natCast] at h
    exact h
  have H0 : Hid (Cells w A0 n (fun i => .string (nm i))) := h0
  have H1 : Hid (Cells w A1 n (fun i => .int .i64 (ln i))) := h1
  have H2 : Hid (Cells w A2 n (fun i => .string (vl i))) := h2
  clear h0 h1 h2
  go_enter Try.func8, Try.ntmps8
  go_wp2
  go_loopw [8] (fun i wr => ∃ (k d : Nat) (c : Array Value), k ≤ n ∧ i = .int .i64 k ∧ wr = (w.alloc (.cells c 32)).drewN d ∧ c.size = n * 4 ∧ Hid (∀ j, j < k * 4 → c[j]? = (cellsE ((List.range n).map fun i => ⟨nm i, ln i, vl i⟩))[j]?)) (fun i _ => n - (intOf i).toNat)
  case atStart => exact ⟨0, 0, _, Nat.zero_le _, rfl, rfl, size_madeCells _ _, fun j hj => by omega⟩
  case round =>
    obtain ⟨k, d, c, hk, rfl, rfl, hsz, HK⟩ := hrel
    by_cases hlt : k < n
    · obtain ⟨b0, o0, rfl, l0, hc0⟩ := H0.out.lit (by omega)
      obtain ⟨b1, o1, rfl, l1, hc1⟩ := H1.out.lit (by omega)
      obtain ⟨b2, o2, rfl, l2, hc2⟩ := H2.out.lit (by omega)
      have k0 : ∀ o, (w.alloc o).cell? ⟨b0, o0 + k, none⟩ = some (.string (nm k)) := fun o => by rw [World.cell?_alloc_lt]; exact hc0 k hlt; exact l0
      have k1 : ∀ o, (w.alloc o).cell? ⟨b1, o1 + k, none⟩ = some (.int .i64 (ln k)) := fun o => by rw [World.cell?_alloc_lt]; exact hc1 k hlt; exact l1
      have k2 : ∀ o, (w.alloc o).cell? ⟨b2, o2 + k, none⟩ = some (.string (vl k)) := fun o => by rw [World.cell?_alloc_lt]; exact hc2 k hlt; exact l2
      have s0 : k * 4 < c.size := by omega
      have s1 : k * 4 + 1 < c.size := by omega
      have s2 : k * 4 + 2 < c.size := by omega
      have s3 : k * 4 + 3 < c.size := by omega
      obtain ⟨x0, e0⟩ : ∃ x, c[k * 4]? = some x := ⟨_, Array.getElem?_eq_getElem s0⟩
      obtain ⟨x1, e1⟩ : ∃ x, c[k * 4 + 1]? = some x := ⟨_, Array.getElem?_eq_getElem s1⟩
      obtain ⟨x2, e2⟩ : ∃ x, c[k * 4 + 2]? = some x := ⟨_, Array.getElem?_eq_getElem s2⟩
      obtain ⟨x3, e3⟩ : ∃ x, c[k * 4 + 3]? = some x := ⟨_, Array.getElem?_eq_getElem s3⟩
      clear hc0 hc1 hc2 H0 H1 H2 hmk s0 s1 s2 s3
      go_wp2
      go_region
      go_wp2
      go_roundw
      case rel =>
        refine ⟨k + 1, d + 1, _, by omega, by go_num, set4 _ _ _ _ _ _ _ _ _ _ _ _, by simpa using hsz, ?_⟩
        exact fill4 (by omega) HK.out (by rw [List.length_map, List.length_range]; exact hlt) (by simp)
      case measure => simp [intOf]; omega
    · clear H0 H1 H2 hmk
      go_wp2
      go_ret
      refine ⟨rfl, d, ?_⟩
      rw [fill_all (l := (List.range n).map fun i => ⟨nm i, ln i, vl i⟩) (by simpa using hsz) (fun j hj => HK.out j (by simp at hj; omega))]
end Go.Proofs.Qxb6616154a
