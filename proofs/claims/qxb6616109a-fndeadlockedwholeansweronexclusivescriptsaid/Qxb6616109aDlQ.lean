import Derived.Test.Qxb6616109aDlP
namespace Go.Proofs.Qxb6616109a
open Go.RowKit Go.Deep Go.Joins
set_option linter.unusedSimpArgs false
set_option linter.unusedVariables false

def vS (n : Nat) : Option Nat → Value
  | none => undef
  | some b => .slice (some ⟨b, 0, none⟩) n n
def vM : Option Nat → Value
  | none => undef
  | some b => .map (some b)
def act6 (nT nG : Nat) (d : Nat → Option Nat) : Act := ⟨#[.int .i64 nT, .int .i64 nG, undef, undef, .pointer none, undef, undef, .int .i64 nG, vS nG (d 0), .int .i64 nG, vS nG (d 1), .int .i64 nT, vS nT (d 2), .int .i64 nT, vS nT (d 3), .int .i64 nT, vS nT (d 4), .int .i64 nT, vS nT (d 5), .int .i64 nT, vS nT (d 6), vM (d 7), undef, undef, undef, undef, undef, undef, undef, undef, undef, undef, undef, undef, undef, undef, undef, undef, undef, undef], []⟩
def obj6 (nT nG : Nat) : Nat → Obj
  | 0 => .cells (madeCells #[.slice none 0 0] nG) 57
  | 1 => .cells (madeCells #[.slice none 0 0] nG) 57
  | 2 => .cells (madeCells #[.slice none 0 0] nT) 25
  | 3 => .cells (madeCells #[.slice none 0 0, .int .u8 0] (nT * 2)) 54
  | 4 => .cells (madeCells #[.int .i64 0] nT) 3
  | 5 => .cells (madeCells #[.slice none 0 0, .int .u8 0] (nT * 2)) 54
  | 6 => .cells (madeCells #[.int .u64 0] nT) 47
  | _ => .map #[] 0
structure Inv6 (w0 w : World) (nT nG : Nat) (d : Nat → Option Nat) : Prop where
  below : Below w0.heap.size w0 w
  lie : ∀ j b, j < 8 → d j = some b → w0.heap.size ≤ b ∧ b < w.heap.size ∧ w.heap[b]? = some (obj6 nT nG j)
  ap : ∀ j j' b, j < 8 → j' < 8 → d j = some b → d j' = some b → j = j'
def upd (d : Nat → Option Nat) (j b : Nat) : Nat → Option Nat := fun i => if i = j then some b else d i
theorem Inv6.step {w0 w : World} {nT nG : Nat} {d : Nat → Option Nat} (h : Inv6 w0 w nT nG d) {j : Nat} (hj : j < 8) : Inv6 w0 (w.alloc (obj6 nT nG j)) nT nG (upd d j w.heap.size) := by
  refine ⟨h.below.alloc h.below.size _, ?_, ?_⟩
  · intro i b hi hb
    unfold upd at hb
    by_cases e : i = j
    · rw [if_pos e] at hb
      obtain rfl : w.heap.size = b := by simpa using hb
      subst e
      exact ⟨h.below.size, by simp, blk_alloc_new _ _⟩
    · rw [if_neg e] at hb
      obtain ⟨h1, h2, h3⟩ := h.lie i b hi hb
      exact ⟨h1, by simp; omega, by rw [Below.heap_alloc w _ b h2]; exact h3⟩
  · intro i i' b hi hi' hb hb'
    unfold upd at hb hb'
    by_cases e : i = j
    · by_cases e' : i' = j
      · omega
      · rw [if_pos e] at hb
        rw [if_neg e'] at hb'
        have := (h.lie i' b hi' hb').2.1
        simp at hb
        omega
    · by_cases e' : i' = j
      · rw [if_neg e] at hb
        rw [if_pos e'] at hb'
        have := (h.lie i b hi hb).2.1
        simp at hb'
        omega
      · rw [if_neg e] at hb
        rw [if_neg e'] at hb'
        exact h.ap i i' b hi hi' hb hb'
def one (o : Option Nat) : Nat := if o.isSome then 0 else 1
def cnt6 (d : Nat → Option Nat) : Nat := one (d 0) + one (d 1) + one (d 2) + one (d 3) + one (d 4) + one (d 5) + one (d 6) + one (d 7)
def lst6 (d : Nat → Option Nat) : Array Bool := lst (d 0).isSome (d 1).isSome (d 2).isSome (d 3).isSome (d 4).isSome (d 5).isSome (d 6).isSome (d 7).isSome

theorem run_made {n : Nat} {t e : TypeId} {z : Value} {cs : Array Value} {sz bytes : Nat} (ht : Try.prog.underlying t = some (.slice e)) (hinfo : (Try.prog.info? e).map (fun i => (i.zero, i.size, i.bytes)) = some (some z, sz, bytes)) (hz : z.cells = cs) (hb : bytes ≤ 64) (hn : n ≤ 65536) (w : World) :
    (Instr.makeSlice t (.int .i64 (n : Int)) (.int .i64 (n : Int))).run Try.prog w = .ok (.slice (some ⟨w.heap.size, 0, none⟩) n n) (w.alloc (.cells (madeCells cs (n * sz)) e)) := by
  obtain ⟨i, hi, hy0, hy1, hy2⟩ := info_parts hinfo
  have hbb : (i.bytes : Int) * (n : Int) ≤ 281474976710656 := by
    have h1 : i.bytes * n ≤ 64 * 65536 := Nat.mul_le_mul (by omega) hn
    have h2 : ((i.bytes * n : Nat) : Int) ≤ 281474976710656 := by omega
    rwa [Int.natCast_mul] at h2
  have hr := run_make (P := Try.prog) w t e i z ht hi hy0 .i64 .i64 n n (by omega) (Int.le_refl _) hbb (by omega)
  rw [hz] at hr
  simp only [Int.toNat_natCast, hy1] at hr
  exact hr
theorem info47 : (Try.prog.info? 47).map (fun i => (i.zero, i.size, i.bytes)) = some (some (.int .u64 0), 1, 8) := by kernel_rfl

set_option maxHeartbeats 2000000 in
theorem makes6 {nT nG : Nat} (hnT : nT ≤ 4096) (hnG : nG ≤ 65536) (w0 : World) {Q : Exit → Act → World → Prop}
    (hQ : ∀ d w, Inv6 w0 w nT nG d → cnt6 d = 0 → wpAny Try.prog .any ops6 Q 3 (lst6 d) (act6 nT nG d) w) :
    ∀ (m : Nat) (d : Nat → Option Nat) (w : World), cnt6 d = m → Inv6 w0 w nT nG d → wpAny Try.prog .any ops6 Q (m + 3) (lst6 d) (act6 nT nG d) w := by
  intro m
  induction m with
  | zero => intro d w hc hi; exact hQ d w hi hc
  | succ m ih =>
    intro d w hc hi
    have hr := allB_out (allB_out (allB_out (allB_out (allB_out (allB_out (allB_out (allB_out ready6 (d 0).isSome) (d 1).isSome) (d 2).isSome) (d 3).isSome) (d 4).isSome) (d 5).isSome) (d 6).isSome) (d 7).isSome
    simp only [Bool.and_eq_true] at hr
    have hrr : Region.ready .any ops6 (lst6 d) = Region.ready .any ops6 (lst (d 0).isSome (d 1).isSome (d 2).isSome (d 3).isSome (d 4).isSome (d 5).isSome (d 6).isSome (d 7).isSome) := rfl
    have e1 : m + 1 + 3 = (m + 3) + 1 := by omega
    rw [e1]
    refine ⟨fun h0 => ?_, fun i hm => ?_⟩
    · rw [hrr] at h0
      rw [h0] at hr
      simp at hr
    · rw [hrr] at hm
      have hk := List.all_eq_true.1 hr.1 i hm
      clear hr hrr hm
      simp only [chk, Bool.or_eq_true, Bool.and_eq_true, beq_iff_eq, Bool.not_eq_true', Option.isSome_eq_false_iff, Option.isNone_iff_eq_none] at hk
      rcases hk with (((((((⟨rfl, hn⟩ | ⟨rfl, hn⟩) | ⟨rfl, hn⟩) | ⟨rfl, hn⟩) | ⟨rfl, hn⟩) | ⟨rfl, hn⟩) | ⟨rfl, hn⟩) | ⟨rfl, hn⟩) | ⟨rfl, hall⟩
      · refine wpOp_makes ops6_1 op6_1g op6_1o (x := .int .i64 (nG : Nat)) rfl (run_made under43 info57 rfl (by decide) hnG w) ?_
        have hs := ih (upd d 0 w.heap.size) (w.alloc (obj6 nT nG 0)) (by simp [cnt6, upd, one, hn] at hc ⊢; omega) (hi.step (by decide))
        rw [op6_1d]
        have ea : (act6 nT nG d).put (some 8) (.slice (some ⟨w.heap.size, 0, none⟩) nG nG) = act6 nT nG (upd d 0 w.heap.size) := by simp [act6, Act.put, upd, vS]
        have el : (lst6 d).setIfInBounds 1 true = lst6 (upd d 0 w.heap.size) := by simp [lst6, lst, upd]
        rw [ea, el]
        simpa [obj6, Value.cells] using hs
      · refine wpOp_makes ops6_3 op6_3g op6_3o (x := .int .i64 (nG : Nat)) rfl (run_made under43 info57 rfl (by decide) hnG w) ?_
        have hs := ih (upd d 1 w.heap.size) (w.alloc (obj6 nT nG 1)) (by simp [cnt6, upd, one, hn] at hc ⊢; omega) (hi.step (by decide))
        rw [op6_3d]
        have ea : (act6 nT nG d).put (some 10) (.slice (some ⟨w.heap.size, 0, none⟩) nG nG) = act6 nT nG (upd d 1 w.heap.size) := by simp [act6, Act.put, upd, vS]
        have el : (lst6 d).setIfInBounds 3 true = lst6 (upd d 1 w.heap.size) := by simp [lst6, lst, upd]
        rw [ea, el]
        simpa [obj6, Value.cells] using hs
      · refine wpOp_makes ops6_5 op6_5g op6_5o (x := .int .i64 (nT : Nat)) rfl (run_made under32 info25 rfl (by decide) (by omega) w) ?_
        have hs := ih (upd d 2 w.heap.size) (w.alloc (obj6 nT nG 2)) (by simp [cnt6, upd, one, hn] at hc ⊢; omega) (hi.step (by decide))
        rw [op6_5d]
        have ea : (act6 nT nG d).put (some 12) (.slice (some ⟨w.heap.size, 0, none⟩) nT nT) = act6 nT nG (upd d 2 w.heap.size) := by simp [act6, Act.put, upd, vS]
        have el : (lst6 d).setIfInBounds 5 true = lst6 (upd d 2 w.heap.size) := by simp [lst6, lst, upd]
        rw [ea, el]
        simpa [obj6, Value.cells] using hs
      · refine wpOp_makes ops6_7 op6_7g op6_7o (x := .int .i64 (nT : Nat)) rfl (run_made under44 info54 rfl (by decide) (by omega) w) ?_
        have hs := ih (upd d 3 w.heap.size) (w.alloc (obj6 nT nG 3)) (by simp [cnt6, upd, one, hn] at hc ⊢; omega) (hi.step (by decide))
        rw [op6_7d]
        have ea : (act6 nT nG d).put (some 14) (.slice (some ⟨w.heap.size, 0, none⟩) nT nT) = act6 nT nG (upd d 3 w.heap.size) := by simp [act6, Act.put, upd, vS]
        have el : (lst6 d).setIfInBounds 7 true = lst6 (upd d 3 w.heap.size) := by simp [lst6, lst, upd]
        rw [ea, el]
        simpa [obj6, Value.cells] using hs
      · refine wpOp_makes ops6_9 op6_9g op6_9o (x := .int .i64 (nT : Nat)) rfl (run_made under25 info3 rfl (by decide) (by omega) w) ?_
        have hs := ih (upd d 4 w.heap.size) (w.alloc (obj6 nT nG 4)) (by simp [cnt6, upd, one, hn] at hc ⊢; omega) (hi.step (by decide))
        rw [op6_9d]
        have ea : (act6 nT nG d).put (some 16) (.slice (some ⟨w.heap.size, 0, none⟩) nT nT) = act6 nT nG (upd d 4 w.heap.size) := by simp [act6, Act.put, upd, vS]
        have el : (lst6 d).setIfInBounds 9 true = lst6 (upd d 4 w.heap.size) := by simp [lst6, lst, upd]
        rw [ea, el]
        simpa [obj6, Value.cells] using hs
      · refine wpOp_makes ops6_11 op6_11g op6_11o (x := .int .i64 (nT : Nat)) rfl (run_made under44 info54 rfl (by decide) (by omega) w) ?_
        have hs := ih (upd d 5 w.heap.size) (w.alloc (obj6 nT nG 5)) (by simp [cnt6, upd, one, hn] at hc ⊢; omega) (hi.step (by decide))
        rw [op6_11d]
        have ea : (act6 nT nG d).put (some 18) (.slice (some ⟨w.heap.size, 0, none⟩) nT nT) = act6 nT nG (upd d 5 w.heap.size) := by simp [act6, Act.put, upd, vS]
        have el : (lst6 d).setIfInBounds 11 true = lst6 (upd d 5 w.heap.size) := by simp [lst6, lst, upd]
        rw [ea, el]
        simpa [obj6, Value.cells] using hs
      · refine wpOp_makes ops6_13 op6_13g op6_13o (x := .int .i64 (nT : Nat)) rfl (run_made Try.underlying45 info47 rfl (by decide) (by omega) w) ?_
        have hs := ih (upd d 6 w.heap.size) (w.alloc (obj6 nT nG 6)) (by simp [cnt6, upd, one, hn] at hc ⊢; omega) (hi.step (by decide))
        rw [op6_13d]
        have ea : (act6 nT nG d).put (some 20) (.slice (some ⟨w.heap.size, 0, none⟩) nT nT) = act6 nT nG (upd d 6 w.heap.size) := by simp [act6, Act.put, upd, vS]
        have el : (lst6 d).setIfInBounds 13 true = lst6 (upd d 6 w.heap.size) := by simp [lst6, lst, upd]
        rw [ea, el]
        simpa [obj6, Value.cells] using hs
      · refine wpOp_makeMap ops6_14 op6_14g op6_14o ?_
        have hs := ih (upd d 7 w.heap.size) (w.alloc (obj6 nT nG 7)) (by simp [cnt6, upd, one, hn] at hc ⊢; omega) (hi.step (by decide))
        rw [op6_14d]
        have ea : (act6 nT nG d).put (some 21) (.map (some w.heap.size)) = act6 nT nG (upd d 7 w.heap.size) := by simp [act6, Act.put, upd, vM]
        have el : (lst6 d).setIfInBounds 14 true = lst6 (upd d 7 w.heap.size) := by simp [lst6, lst, upd]
        rw [ea, el]
        exact hs
      · exfalso
        simp [cnt6, one, hall] at hc
end Go.Proofs.Qxb6616109a
