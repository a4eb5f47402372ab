import Derived.Test.Qxb6616151aBase
namespace Go.Proofs.Qxb6616151a
open Go.RowKit Go.Deep Go.Joins

theorem drewN_add (w : World) (a b : Nat) : (w.drewN a).drewN b = w.drewN (a + b) := by simp [World.drewN, Nat.add_assoc]

theorem setRow_alloc (w : World) (c d : Array Value) (t : TypeId) : (w.alloc (.cells c t)).setRow w.heap.size d = w.alloc (.cells d t) := by
  have e : ∀ (f : Obj → Obj), (w.heap.push (.cells c t)).modify w.heap.size f = w.heap.push (f (.cells c t)) := by
    intro f
    apply Array.ext_getElem?
    intro j
    rw [Array.getElem?_modify, Array.getElem?_push, Array.getElem?_push]
    by_cases h : j = w.heap.size
    · subst h; simp
    · rw [if_neg h, if_neg (fun e => h e.symm), if_neg h]
  show ({ w with heap := (w.heap.push (.cells c t)).modify w.heap.size _ } : World) = { w with heap := w.heap.push (.cells d t) }
  rw [e]

theorem clone_copy (w : World) (ad : Addr) (n c : Nat) (l : List Int) (hl : l.length = n) (hc : Cells w (some ad) n (fun i => .int .u8 (l.getD i 0))) :
    ∀ ty, (Builtin.copy_ #[22, 22] ty #[.slice (some ⟨w.heap.size, 0, none⟩) n n, .slice (some ad) n c]).run Try.prog (w.alloc (.cells (madeCells #[.int .u8 0] n) 5)) = .ok (goInt n) (w.alloc (.cells (u8s l).toArray 5)) := by
  intro ty
  have hu := u8s_length l
  rcases Nat.eq_zero_or_pos n with h0 | h0
  · subst h0
    have h := run_copy_none (P := Try.prog) (w.alloc (.cells (madeCells #[.int .u8 0] 0) 5)) 22 22 ty 5 (some ⟨w.heap.size, 0, none⟩) (some ad) 0 0 0 c Try.underlying22 size5 rfl
    obtain rfl : l = [] := List.eq_nil_of_length_eq_zero hl
    rw [h]
    simp [madeCells, u8s, Array.range_zero']
  · obtain ⟨b, off, had, hb, hcc⟩ := hc.lit h0
    simp only [Option.some.injEq] at had
    subst had
    have h := run_copy_row (P := Try.prog) (w.alloc (.cells (madeCells #[.int .u8 0] n) 5)) 22 22 ty 5 w.heap.size 0 n n ⟨b, off, none⟩ n c (madeCells #[.int .u8 0] n) 5 (u8s l) Try.underlying22 size5 (blk_alloc_new _ _) (by rw [hu, hl]; exact (Nat.min_self n).symm)
      (fun j v hj => by
        rw [Go.WideShapes.add_plain]
        refine (World.cell?_alloc_lt w _ _ (by exact hb)).trans ?_
        have hjl : j < l.length := by have := (List.getElem?_eq_some_iff.1 hj).1; omega
        rw [hcc j (by omega), ← hj]
        simp [u8s, List.getElem?_eq_getElem hjl])
      (by rw [hu, size_madeCells]; omega) (by intro v hv; simp only [u8s, List.mem_map] at hv; obtain ⟨_, _, rfl⟩ := hv; rfl)
    rw [h, setRow_alloc, hu, hl]
    congr 3
    simp [size_madeCells]

set_option maxHeartbeats 400000 in
theorem clone_nil (w : World) : Calls Try.prog 6 #[.slice none 0 0] w fun e w' => e = .returned (.slice none 0 0) ∧ w' = w := by
  have hq := fun (w : World) (a : Option Addr) (n c n' c' : Nat) => Lib.run_eql_slice_nil (P := Try.prog) w 22 5 a n c n' c' Try.underlying22
  go_enter Try.func6, Try.ntmps6
  go_wp2
  go_ret
  exact ⟨rfl, rfl⟩

set_option maxHeartbeats 400000 in
theorem clone_some (ad : Addr) (n c : Nat) (l : List Int) (w : World) (hl : l.length = n) (hm : n ≤ 1048576) (hc : Cells w (some ad) n (fun i => .int .u8 (l.getD i 0))) :
    Calls Try.prog 6 #[.slice (some ad) n c] w fun e w' => e = .returned (.slice (some ⟨w.heap.size, 0, none⟩) n n) ∧ w' = w.alloc (.cells (u8s l).toArray 5) := by
  have hq := fun (w : World) (a : Option Addr) (n c n' c' : Nat) => Lib.run_eql_slice_nil (P := Try.prog) w 22 5 a n c n' c' Try.underlying22
  have hmk := run_make_row' (P := Try.prog) 22 5 (.int .u8 0) 1 Try.underlying22 info5 rfl .i64 .i64 n (by omega) (by omega)
  have hcp := clone_copy w ad n c l hl hc
  clear hc
  go_enter Try.func6, Try.ntmps6
  go_wp2
  go_ret
  exact ⟨rfl, rfl⟩

/-- zzCloneBytes: whatever slice: a row of the call's own with the same bytes. -/
theorem clone6 (A : Option Addr) (n c : Nat) (l : List Int) (w : World) (hA : A = none → n = 0 ∧ c = 0) (hl : l.length = n) (hm : n ≤ 1048576) (hc : Cells w A n (fun i => .int .u8 (l.getD i 0))) :
    Calls Try.prog 6 #[.slice A n c] w fun e w' => ∃ A' c', e = .returned (.slice A' n c') ∧ Owns w' w.heap.size (.slice A' n c') l ∧ w.grownBy w' none := by
  cases A with
  | none =>
    obtain ⟨rfl, rfl⟩ := hA rfl
    refine (clone_nil w).mono fun e w' ⟨he, hw⟩ => ?_
    subst hw
    obtain rfl : l = [] := List.eq_nil_of_length_eq_zero hl
    exact ⟨none, 0, he, World.ownsRow_nil _ _ _ _, ⟨rfl, rfl, rfl, Nat.le_refl _, fun _ _ _ => rfl⟩⟩
  | some ad =>
    refine (clone_some ad n c l w hl hm hc).mono fun e w' ⟨he, hw⟩ => ?_
    subst hw
    subst hl
    have hu := u8s_length l
    refine ⟨_, _, he, ⟨by rw [hu, Nat.mul_one], .inr ⟨_, _, _, rfl, Nat.le_refl _, blk_alloc_new w _, Nat.le_refl _, by unfold maxLen; omega, by simp [hu], ?_⟩⟩, World.grownBy_alloc w _ none⟩
    simp only [Nat.mul_one]
    exact List.take_of_length_le (by rw [hu]; exact Nat.le_refl _)

set_option maxHeartbeats 1000000 in
theorem bytes11 (A0 : Option Addr) (n0 c0 : Nat) (s t : ByteArray) (w : World) (h0 : n0 ≤ maxLen) (h1 : s.size ≤ maxLen) (h2 : t.size ≤ maxLen) :
    Calls Try.prog 11 #[.slice A0 n0 c0, .string s, .string t] w fun e w' => GaveOk e True ∧ w' = w := by
  unfold maxLen at h0 h1 h2
  go_enter Try.func11, Try.ntmps11
  go_wp2
  all_goals first | (go_ret; exact ⟨gaveNo _, rfl⟩) | (go_ret; exact ⟨gaveYes trivial, rfl⟩)

set_option maxHeartbeats 1000000 in
theorem bytes5 (A0 : Option Addr) (n0 c0 : Nat) (s t : ByteArray) (w : World) (h0 : n0 ≤ maxLen) (h1 : s.size ≤ maxLen) (h2 : t.size ≤ maxLen) :
    Calls Try.prog 5 #[.slice A0 n0 c0, .string s, .string t] w fun e w' => GaveOk e True ∧ w' = w := by
  unfold maxLen at h0 h1 h2
  go_enter Try.func5, Try.ntmps5
  go_wp2
  all_goals first | (go_ret; exact ⟨gaveNo _, rfl⟩) | (go_ret; exact ⟨gaveYes trivial, rfl⟩)

/-- Are two lists of bytes the same? -/
def sameL (a b : List Int) : Bool := decide (a = b)
theorem sameL_false {a b : List Int} (h : a ≠ b) : sameL a b = false := by simp [sameL, h]
theorem sameL_true {a b : List Int} (h : a = b) : sameL a b = true := by simp [sameL, h]

set_option maxHeartbeats 1000000 in
theorem eq8 (A B : Option Addr) (n m ca cb : Nat) (la lb : List Int) (w : World) (hn : la.length = n) (hm : lb.length = m) (h1 : n ≤ 8388608) (h2 : m ≤ 8388608)
    (hA : Cells w A n (fun i => .int .u8 (la.getD i 0))) (hB : Cells w B m (fun i => .int .u8 (lb.getD i 0))) :
    Calls Try.prog 8 #[.slice A n ca, .slice B m cb] w fun e w' => e = .returned (.bool (sameL la lb)) ∧ ∃ d, w' = w.drewN d := by
  obtain ⟨fa, hfa⟩ : ∃ fa : Nat → Int, fa = fun i => la.getD i 0 := ⟨_, rfl⟩
  obtain ⟨fb, hfb⟩ : ∃ fb : Nat → Int, fb = fun i => lb.getD i 0 := ⟨_, rfl⟩
  have hA' : Cells w A n (fun i => .int .u8 (fa i)) := by rw [hfa]; exact hA
  have hB' : Cells w B m (fun i => .int .u8 (fb i)) := by rw [hfb]; exact hB
  have hne : n ≠ m → sameL la lb = false := fun h => sameL_false (fun e => by subst e; omega)
  have hdiff : ∀ i, i < n → n = m → fa i ≠ fb i → sameL la lb = false := fun i hi e h => sameL_false (fun e2 => by subst e2; rw [hfa, hfb] at h; exact h rfl)
  have hall : n = m → (∀ i, i < n → fa i = fb i) → sameL la lb = true := fun e h => sameL_true (by
    apply List.ext_getElem (by omega)
    intro i hi hi2
    have := h i (by omega)
    rw [hfa, hfb] at this
    simpa [List.getD_eq_getElem?_getD, List.getElem?_eq_getElem hi, List.getElem?_eq_getElem hi2] using this)
  obtain ⟨r, hr⟩ : ∃ r, sameL la lb = r := ⟨_, rfl⟩
  rw [hr] at hne hdiff hall ⊢
  have HA : Hid (Cells w A n (fun i => .int .u8 (fa i))) := hA'
  have HB : Hid (Cells w B m (fun i => .int .u8 (fb i))) := hB'
  have H1 : Hid (n ≠ m → r = false) := hne
  have H2 : Hid (∀ i, i < n → n = m → fa i ≠ fb i → r = false) := hdiff
  have H3 : Hid (n = m → (∀ i, i < n → fa i = fb i) → r = true) := hall
  clear hA hB hA' hB' hne hdiff hall hfa hfb hn hm hr
  by_cases e : n = m
  · subst e
    clear H1
    go_enter Try.func8, Try.ntmps8
    go_wp2
    go_loopw [5] (fun i wr => ∃ (k d : Nat), k ≤ n ∧ i = .int .i64 k ∧ wr = w.drewN d ∧ Hid (∀ j, j < k → fa j = fb j)) (fun i _ => n - (intOf i).toNat)
    case atStart => exact ⟨0, 0, Nat.zero_le _, rfl, rfl, fun j hj => by omega⟩
    case round =>
      obtain ⟨k, d, hk, rfl, rfl, HK⟩ := hrel
      by_cases hlt : k < n
      · obtain ⟨b1, o1, rfl, _, hc1⟩ := HA.out.lit (by omega)
        obtain ⟨b2, o2, rfl, _, hc2⟩ := HB.out.lit (by omega)
        have k1 := hc1 k hlt
        have k2 := hc2 k hlt
        clear hc1 hc2 HA HB
        by_cases hq : fa k = fb k
        · rw [← hq] at k2
          have HQ : Hid (fa k = fb k) := hq
          clear hq
          go_wp2
          go_quiet (fail)
          go_wp2
          go_roundw
          case rel => exact ⟨k + 1, d + nq, by omega, by go_num, rfl, fun j hj => by by_cases e : j = k; (subst e; exact HQ.out); exact HK.out j (by omega)⟩
          case measure => simp [intOf]; omega
        · have hb : (fa k != fb k) = true := by simpa using hq
          have HR : Hid (r = false) := H2.out k hlt (by trivial) hq
          clear hq H2 H3
          go_wp2
          go_quiet (fail)
          go_wp2
          go_ret
          exact ⟨by rw [HR.out]; rfl, ⟨d + nq, drewN_add _ _ _⟩⟩
      · have HR : Hid (r = true) := H3.out (by trivial) (fun i hi => HK.out i (by omega))
        clear H2 H3 HA HB
        go_wp2
        go_ret
        exact ⟨by rw [HR.out]; rfl, ⟨_, rfl⟩⟩
  · have HR : Hid (r = false) := H1.out e
    have hb : ((n : Int) != (m : Int)) = true := by simp; omega
    clear H1 H2 H3 HA HB
    go_enter Try.func8, Try.ntmps8
    go_wp2
    go_ret
    exact ⟨by rw [HR.out]; rfl, ⟨0, rfl⟩⟩
end Go.Proofs.Qxb6616151a
