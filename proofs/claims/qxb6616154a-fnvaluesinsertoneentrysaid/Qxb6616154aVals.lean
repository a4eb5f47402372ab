import Derived.Test.Qxb6616154aBase
namespace Go.Proofs.Qxb6616154a
open Go.RowKit Go.Deep Go.Joins

/-- Is the entry named s? -/
def isN (s : ByteArray) (e : Ent) : Bool := e.nm.toList == s.toList
/-- What Values gives. -/
def vals (s : ByteArray) (l : List Ent) : List Ent := l.filter (isN s)
theorem vals_append (s : ByteArray) (a b : List Ent) : vals s (a ++ b) = vals s a ++ vals s b := by simp [vals]
theorem vals_snoc_yes {s : ByteArray} {l : List Ent} {k : Nat} (hk : k < l.length) (h : isN s l[k] = true) : vals s (l.take (k + 1)) = vals s (l.take k) ++ [l[k]] := by
  rw [List.take_succ_eq_append_getElem hk, vals_append]; simp [vals, h]
theorem vals_snoc_no {s : ByteArray} {l : List Ent} {k : Nat} (hk : k < l.length) (h : isN s l[k] = false) : vals s (l.take (k + 1)) = vals s (l.take k) := by
  rw [List.take_succ_eq_append_getElem hk, vals_append]; simp [vals, h]
theorem vals_len (s : ByteArray) (l : List Ent) : (vals s l).length ≤ l.length := List.length_filter_le _ _

theorem HasE.below {w w' : World} {B : Nat} {A : Option Addr} {l : List Ent} (h : HasE w A l) (hb : Below B w w') (hB : w.heap.size ≤ B) : HasE w' A l := by
  refine ⟨fun i hi => ?_⟩
  obtain ⟨b, off, rfl, h0, h1, h2, h3⟩ := h.at_ i hi
  have hlt := World.block_lt_of_cell? w _ h0
  exact ⟨b, off, rfl, (hb.cell (by simp at hlt ⊢; omega)).trans h0, (hb.cell (by simp at hlt ⊢; omega)).trans h1, (hb.cell (by simp at hlt ⊢; omega)).trans h2, (hb.cell (by simp at hlt ⊢; omega)).trans h3⟩

theorem news_at (w : World) (o : Obj) (e : Ent) : ∀ j u, (encE e)[j]? = some u → ((w.alloc o).alloc (.cells #[.string e.nm, .int .i64 e.ln, .string e.vl, .pointer none] 32)).cell? ((⟨w.heap.size + 1, 0, none⟩ : Addr).add j) = some u := by
  intro j u hj
  rw [Go.WideShapes.add_plain, Nat.zero_add, Go.Joins.cell_of_block (cs := #[.string e.nm, .int .i64 e.ln, .string e.vl, .pointer none]) (t := 32) (fr := (0, 0)) (by
    have : w.heap.size + 1 = (w.alloc o).heap.size := by rw [nblk_alloc]
    rw [this]; exact blk_alloc_new _ _)]
  simpa [encE] using hj
theorem enc_one (e : Ent) : ∀ u ∈ encE e, u.oneCell' = true := by
  intro u hu
  simp only [encE, List.mem_cons, List.not_mem_nil, or_false] at hu
  rcases hu with rfl | rfl | rfl | rfl <;> rfl

/-- What a round that appends leaves. -/
theorem vals_step {w wr w1 : World} {v v1 : Value} {l : List Ent} {e : Ent} {o o2 : Obj} (ho : OwnsE wr w.heap.size v l) (hb : Below w.heap.size w wr)
    (o1 : w1.ownsRow w.heap.size 32 4 v1 (l.length + 1) (cellsE l ++ encE e)) (g1 : ((wr.alloc o).alloc o2).grownBy w1 v.ownBlock) :
    OwnsE w1 w.heap.size v1 (l ++ [e]) ∧ Below w.heap.size w w1 ∧ ∃ g cap, v1 = .slice (some ⟨g, 0, none⟩) (l.length + 1) cap := by
  have hs := hb.size
  refine ⟨?_, ?_, ownsRow_form o1 (by omega)⟩
  · unfold OwnsE
    rw [cellsE_append, List.length_append]
    have : cellsE [e] = encE e := by simp [cellsE]
    rw [this]; exact o1
  · refine ((hb.alloc hs _).alloc (by rw [nblk_alloc]; omega) _).grown g1 (by rw [nblk_alloc, nblk_alloc]; omega) (fun k hk => (World.ownsRow.lt ho k hk).1)

set_option maxHeartbeats 1000000 in
theorem values9 (A : Option Addr) (c : Nat) (l : List Ent) (s : ByteArray) (w : World) (n : Nat) (hl : l.length = n) (hn : n ≤ 1048576) (hE : HasE w A l) :
    Calls Try.prog 9 #[.slice A n c, .string s] w fun e w' => (∃ v, e = .returned v ∧ OwnsE w' w.heap.size v (vals s l) ∧ (vals s l = [] → v = .slice none 0 0)) ∧ Below w.heap.size w w' := by
  obtain ⟨i32, hi32, hz0, hz1, hz2⟩ := info_parts info32
  have HE : Hid (HasE w A l) := hE
  have HL : Hid (l.length = n) := hl
  clear hE hl
  go_enter Try.func9, Try.ntmps9
  go_wp2
  go_loopw [5, 10] (fun v i wr => ∃ (k : Nat), k ≤ n ∧ i = .int .i64 k ∧ Hid (OwnsE wr w.heap.size v (vals s (l.take k))) ∧ Hid (vals s (l.take k) = [] → v = .slice none 0 0) ∧ Below w.heap.size w wr) (fun _ i _ => n - (intOf i).toNat)
  case atStart => exact ⟨0, Nat.zero_le _, rfl, World.ownsRow_nil _ _ _ _, fun _ => rfl, Below.refl _ _⟩
  case round =>
    obtain ⟨k, hk, rfl, HO, HN, hb⟩ := hrel
    have hsz := hb.size
    by_cases hlt : k < n
    · have hkl : k < l.length := by rw [HL.out]; exact hlt
      obtain ⟨b, off, rfl, h0, h1, h2, h3⟩ := (HE.out.below hb (Nat.le_refl _)).at_ k hkl
      obtain ⟨e, he⟩ : ∃ e, l[k] = e := ⟨_, rfl⟩
      rw [he] at h0 h1 h2
      have HEE : Hid (l[k] = e) := he
      have HB : Hid (Below w.heap.size w wr) := hb
      clear he hb
      cases hq : isN s e with
      | true =>
        have hq2 : (e.nm.toList == s.toList) = true := hq
        have hlen : (vals s (l.take k)).length ≤ 1048576 := by
          have h1 := vals_len s (l.take k)
          have h2 : (l.take k).length ≤ k := List.length_take_le _ _
          omega
        go_wp2_with (at_builtin; refine wpList_append_own _ rfl (.tmp 18) (.tmp 20) 26 rfl w.heap.size 32 i32 (.agg #[.string ⟨#[]⟩, .int .i64 0, .string ⟨#[]⟩, .pointer none]) 4 48 Try.underlying26 hi32 hz0 hz1 hz2 rfl (by decide) u5 (vals s (l.take k)).length (cellsE (vals s (l.take k))) rfl ((HO.out.alloc _).alloc _) ⟨wr.heap.size + 1, 0, none⟩ 1 1 (encE e) rfl rfl (news_at wr _ e) (enc_one e) (by unfold maxLen; omega) (by omega) (by simp; omega) ?_)
        intro v1 w1 o1 g1 hv1
        obtain ⟨r1, r3, g, cap, rfl⟩ := vals_step HO.out HB.out o1 g1
        have R1 : Hid (OwnsE w1 w.heap.size (.slice (some ⟨g, 0, none⟩) ((vals s (l.take k)).length + 1) cap) (vals s (l.take k) ++ [e])) := r1
        have R3 : Hid (Below w.heap.size w w1) := r3
        clear o1 g1 hv1 r1 r3 HO HN HB HE h0 h1 h2 h3
        have HQ : Hid (isN s l[k] = true) := by rw [HEE.out]; exact hq
        go_wp2
        go_roundw
        case rel =>
          have hv := vals_snoc_yes hkl HQ.out
          rw [HEE.out] at hv
          refine ⟨k + 1, by omega, by go_num, ?_, ?_, R3.out⟩
          · show OwnsE _ _ _ _
            rw [hv]; exact R1.out
          · show _ → _
            rw [hv]; intro h; simp at h
        case measure => simp [intOf]; omega
      | false =>
        have hq2 : (e.nm.toList == s.toList) = false := hq
        have HQ : Hid (isN s l[k] = false) := by rw [HEE.out]; exact hq
        go_wp2
        go_roundw
        case rel =>
          have hv := vals_snoc_no hkl HQ.out
          refine ⟨k + 1, by omega, by go_num, ?_, ?_, HB.out.alloc hsz _⟩
          · show OwnsE _ _ _ _
            rw [hv]; exact HO.out.alloc _
          · show _ → _
            rw [hv]; exact HN.out
        case measure => simp [intOf]; omega
    · have HB : Hid (Below w.heap.size w wr) := hb
      have e : l.take k = l := List.take_of_length_le (by rw [HL.out]; omega)
      rw [e] at HO HN
      clear hb HE e
      go_wp2
      go_ret
      exact ⟨⟨_, rfl, HO.out, HN.out⟩, HB.out⟩
end Go.Proofs.Qxb6616154a
