import Derived.Test.Qxb6616109aDmK
namespace Go.Proofs.Qxb6616109a
open Go.RowKit Go.Deep Go.Joins
set_option linter.unusedSimpArgs false
set_option linter.unusedVariables false

variable {wD w w1 : World} {B : Bk} {N nT nG hb ob wb : Nat} {V V' : Nat → Nat → Value} {X X' : Nat → Nat → List Value} {md md' : Nat → Int} {hf wf : Nat → Int} {H rq : Nat → Option Nat} {L : Nat → List Nat}

def up {α : Type} (f : Nat → α) (i : Nat) (v : α) : Nat → α := fun j => if j = i then v else f j

/-- append of a number onto a row of the call's own. -/
theorem tn_row {n : Nat} {v0 : Value} {xs : List Value} (hown : w.ownsRow N 3 1 v0 n xs) (hN : N ≤ w.heap.size) (hn : n ≤ 65536) (x : Int) :
    ∃ g cap w', (Builtin.append_ #[25, 25] 25 #[v0, .slice (some ⟨w.heap.size, 0, none⟩) 1 1]).run Try.prog (w.alloc (.cells #[.int .i64 x] 3)) = .ok (.slice (some ⟨g, 0, none⟩) (n + 1) cap) w' ∧
      Tn N w w' v0 (.slice (some ⟨g, 0, none⟩) (n + 1) cap) (xs ++ [.int .i64 x]) := by
  obtain ⟨i3, hi3, hy0, hy1, hy2⟩ := info_parts info3
  have hnews : ∀ j u, ([.int .i64 x] : List Value)[j]? = some u → (w.alloc (.cells #[.int .i64 x] 3)).cell? (Addr.add ⟨w.heap.size, 0, none⟩ j) = some u := by
    intro j u hj
    match j, hj with
    | 0, hj => simp at hj; subst hj; simp [Addr.add]
  obtain ⟨g, cap, w', h1, h2, h3, h4⟩ := run_append_row (P := Try.prog) (w.alloc (.cells #[.int .i64 x] 3)) N 25 25 3 i3 (.int .i64 0) 1 8 Try.underlying25 hi3 hy0 hy1 hy2 rfl (by decide) v0 n xs (hown.alloc _) ⟨w.heap.size, 0, none⟩ 1 [.int .i64 x] rfl hnews (by intro u hu; simp at hu; subst hu; rfl) (by simp only [maxLen]; omega) (by omega) (by simp; omega)
  have hl : xs.length = n := by simpa using hown.1
  refine ⟨g, cap, w', h1, ?_⟩
  have e1 : (w.alloc (.cells #[.int .i64 x] 3)).heap.size = w.heap.size + 1 := by simp
  refine ⟨h3.os, h3.tape, h3.output, by have := h3.size; omega, ?_, ?_, ?_⟩
  · intro b hb hne
    rw [h3.block b (by omega) (fun e => hne e.symm)]
    exact Below.heap_alloc w _ b hb
  · rw [List.length_append, hl]
    simpa using h2
  · intro b hb
    have hbg : g = b := by simpa [Value.ownBlock] using hb
    subst hbg
    rcases h4 with h5 | h5
    · exact .inl h5
    · right; omega

/-- The law's own row of t as it is read. -/
theorem Lx.orow (h : Lx wD w B N nT nG hb ob wb V X md hf wf) {t : Nat} (ht : t < nT) {l : List Nat} (hx : X 3 t = ic l) : ∃ A c, V 3 t = .slice A l.length c ∧ w.ownsRow N 3 1 (.slice A l.length c) l.length (ic l) ∧ w.cell? ⟨ob, t, none⟩ = some (.slice A l.length c) ∧ w.frozen? ⟨ob, t, none⟩ = false := by
  obtain ⟨A, c, h1, h2⟩ := h.lk.lrow (k := 3) (i := t) (l := l) (by decide) (by simpa [lim0] using ht) hx
  exact ⟨A, c, h1, h2, by rw [h.ro.cell ht, h1], h.ro.frozen t⟩

/-- What the table's release leaves: the law's holders still stand. -/
theorem rel_call (h : Lw wD w B N nT nG hb ob wb V X md H rq L) {t : Nat} (hk : ∃ V', Lk w1 B N nT nG (lim0 nT nG) V' (put2 (freed X (L t)) 1 t (ic [])) md) (hF : Fr B N w w1) :
    ∃ V', Lx wD w1 B N nT nG hb ob wb V' (put2 (freed X (L t)) 1 t (ic [])) md (fun x => if x ∈ (L t).take 0 then -1 else nv (H x)) (fun t => nv (rq t)) := by
  obtain ⟨V', hk⟩ := hk
  refine ⟨V', ?_⟩
  have := h.lx.call hk hF (fun i => by rw [put2_other _ _ (by omega), freed_other _ (by omega)])
  simpa using this

theorem rel_fun (H : Nat → Option Nat) (l : List Nat) (j g : Nat) (hg : l[j]? = some g) : (fun x => if x = g then (-1 : Int) else (if x ∈ l.take j then -1 else nv (H x))) = fun x => if x ∈ l.take (j + 1) then -1 else nv (H x) := by
  funext x
  rw [List.take_add_one, hg]
  by_cases e : x = g
  · simp [e]
  · by_cases e2 : x ∈ l.take j <;> simp [e, e2]

/-- The end of a release. -/
theorem rel_end (h : Lw wD w B N nT nG hb ob wb V X md H rq L) {t : Nat} (ht : t < nT) (h1 : Lx wD w1 B N nT nG hb ob wb V' (put2 (freed X (L t)) 1 t (ic [])) md (fun x => if x ∈ (L t).take (L t).length then -1 else nv (H x)) (fun t => nv (rq t))) :
    ∃ V X, Lw wD (w1.setCell ⟨ob, t, none⟩ (.slice none 0 0)) B N nT nG hb ob wb V X md (fun x => if x ∈ L t then none else H x) rq (up L t []) := by
  rw [List.take_length] at h1
  have e1 : (fun x => if x ∈ L t then (-1 : Int) else nv (H x)) = fun x => nv (if x ∈ L t then none else H x) := by
    funext x; by_cases e : x ∈ L t <;> simp [e, nv]
  rw [e1] at h1
  have h2 := h1.setO ht (w1 := w1) (v := .slice none 0 0) (xs := []) ⟨rfl, rfl, rfl, Nat.le_refl _, fun _ _ _ => rfl, World.ownsRow_nil _ _ _ _, fun b hb => by simp [Value.ownBlock] at hb⟩
  refine ⟨_, _, h2, ?_, ?_, ?_, ?_, h.rq, ?_, ?_, ?_⟩
  · intro g hg
    rw [put2_other _ _ (by omega), put2_other _ _ (by omega), put2_other _ _ (by omega)]
    by_cases e : g ∈ L t
    · simp [freed, e, hc]
    · rw [freed_other _ (by simp [e]), if_neg e]
      exact h.x0 g hg
  · intro s hs
    rw [put2_other _ _ (by omega), put2_other _ _ (by omega)]
    by_cases e : s = t
    · subst e; rw [put2_same]; simp [up]
    · rw [put2_other _ _ (by omega), freed_other _ (by omega)]
      simp only [up, if_neg e]
      exact h.x1 s hs
  · intro s hs
    rw [put2_other _ _ (by omega), put2_other _ _ (by omega), put2_other _ _ (by omega), freed_other _ (by omega)]
    exact h.x2 s hs
  · intro s hs
    rw [put2_other _ _ (by omega)]
    by_cases e : s = t
    · subst e; rw [put2_same]; simp [up, ic]
    · rw [put2_other _ _ (by omega), put2_other _ _ (by omega), freed_other _ (by omega)]
      simp only [up, if_neg e]
      exact h.x3 s hs
  · intro g hg s hs
    by_cases e : g ∈ L t
    · simp [e] at hs
    · rw [if_neg e] at hs; exact h.ho g hg s hs
  · intro s hs g
    by_cases e : s = t
    · subst e
      simp only [up, if_true]
      constructor
      · intro hm; simp at hm
      · rintro ⟨hg, hh⟩
        exfalso
        by_cases e2 : g ∈ L s
        · simp [e2] at hh
        · rw [if_neg e2] at hh
          exact e2 ((h.mem s hs g).2 ⟨hg, hh⟩)
    · simp only [up, if_neg e]
      rw [h.mem s hs g]
      constructor
      · rintro ⟨hg, hh⟩
        have : g ∉ L t := fun hm => by
          have := ((h.mem t ht g).1 hm).2
          rw [hh] at this
          exact e (by simpa using this)
        exact ⟨hg, by rw [if_neg this]; exact hh⟩
      · rintro ⟨hg, hh⟩
        by_cases e2 : g ∈ L t
        · simp [e2] at hh
        · rw [if_neg e2] at hh; exact ⟨hg, hh⟩
  · intro s hs
    by_cases e : s = t
    · simp [up, e]
    · simp only [up, if_neg e]; exact h.nd s hs

/-- The refusal. -/
theorem refuse_end (h : Lw wD w B N nT nG hb ob wb V X md H rq L) {t g : Nat} (ht : t < nT) (hg : g < nG) (hk : ∃ V' md', Lk w1 B N nT nG (lim0 nT nG) V' (refused X t g) md') {wm : World} (hw : Below w.heap.size w wm) (hF : Fr B N wm w1) :
    ∃ V X md, Lw wD (w1.setCell ⟨wb, t, none⟩ (.int .i64 (g : Int))) B N nT nG hb ob wb V X md H (up rq t (some g)) L := by
  obtain ⟨V', md', hk⟩ := hk
  have h1 := (h.lx.later hw).call hk hF (fun i => by unfold refused; rw [put2_other _ _ (by omega)])
  have h2 := h1.setW t (g : Int)
  have e1 : (fun x => if x = t then (g : Int) else nv (rq x)) = fun x => nv (up rq t (some g) x) := by
    funext x; by_cases e : x = t <;> simp [up, e, nv]
  rw [e1] at h2
  refine ⟨_, _, _, h2, ?_, ?_, ?_, ?_, ?_, h.ho, h.mem, h.nd⟩
  · intro g hg; unfold refused; rw [put2_other _ _ (by omega)]; exact h.x0 g hg
  · intro s hs; unfold refused; rw [put2_other _ _ (by omega)]; exact h.x1 s hs
  · intro s hs
    unfold refused
    by_cases e : s = t
    · subst e; rw [put2_same]; simp [up]
    · rw [put2_other _ _ (by omega)]; simp only [up, if_neg e]; exact h.x2 s hs
  · intro s hs; unfold refused; rw [put2_other _ _ (by omega)]; exact h.x3 s hs
  · intro s hs g' hg'
    by_cases e : s = t
    · simp [up, e] at hg'; omega
    · simp only [up, if_neg e] at hg'; exact h.rq s hs g' hg'

/-- The grant: behind the table's call and the store of the holder. -/
theorem grant_mid (h : Lw wD w B N nT nG hb ob wb V X md H rq L) {t g : Nat} (hk : ∃ V' md', Lk w1 B N nT nG (lim0 nT nG) V' (granted X t g (L t)) md') {wm : World} (hw : Below w.heap.size w wm) (hF : Fr B N wm w1) :
    ∃ V' md', Lx wD (w1.setCell ⟨hb, g, none⟩ (.int .i64 (t : Int))) B N nT nG hb ob wb V' (granted X t g (L t)) md' (fun x => nv (up H g (some t) x)) (fun t => nv (rq t)) ∧ w1.cell? ⟨hb, g, none⟩ = (w.cell? ⟨hb, g, none⟩) ∧ w1.frozen? ⟨hb, g, none⟩ = false := by
  obtain ⟨V', md', hk⟩ := hk
  have h1 := (h.lx.later hw).call hk hF (fun i => by unfold granted; rw [put2_other _ _ (by omega), put2_other _ _ (by omega), put2_other _ _ (by omega)])
  have h2 := h1.setH g (t : Int)
  have e1 : (fun x => if x = g then (t : Int) else nv (H x)) = fun x => nv (up H g (some t) x) := by
    funext x; by_cases e : x = g <;> simp [up, e, nv]
  rw [e1] at h2
  refine ⟨V', md', h2, ?_, h1.rh.frozen g⟩
  have ho := h.lx.ord
  have ok := h.lx.okh
  have o1 := ok.ho.1
  have o2 := ok.hd.1
  have o3 := ok.rf
  have hs := h.lx.lk.size
  refine (World.cell?_of_block (hF.block hb (by omega) (by omega) (by omega) (by omega))).trans (World.cell?_of_block (hw.block hb (by omega)))

theorem grant_end (h : Lw wD w B N nT nG hb ob wb V X md H rq L) {t g : Nat} (ht : t < nT) (hg : g < nG) (hfree : H g = none) {v : Value} {w2 : World} (h1 : Lx wD w1 B N nT nG hb ob wb V' (granted X t g (L t)) md' (fun x => nv (up H g (some t) x)) (fun t => nv (rq t)))
    (hT : Tn N w1 w2 (V' 3 t) v (ic (L t) ++ [.int .i64 (g : Int)])) :
    ∃ V X md, Lw wD ((w2.setCell ⟨ob, t, none⟩ v).setCell ⟨wb, t, none⟩ (.int .i64 (-1))) B N nT nG hb ob wb V X md (up H g (some t)) (up rq t none) (up L t (L t ++ [g])) := by
  have h2 := (h1.setO ht hT).setW t (-1)
  have e1 : (fun x => if x = t then (-1 : Int) else nv (rq x)) = fun x => nv (up rq t none x) := by
    funext x; by_cases e : x = t <;> simp [up, e, nv]
  rw [e1] at h2
  refine ⟨_, _, _, h2, ?_, ?_, ?_, ?_, ?_, ?_, ?_, ?_⟩
  · intro g' hg'
    rw [put2_other _ _ (by omega), put2_other _ _ (by omega)]
    unfold granted
    rw [put2_other _ _ (by omega), put2_other _ _ (by omega)]
    by_cases e : g' = g
    · subst e; rw [put2_same]; simp [up]
    · rw [put2_other _ _ (by omega)]; simp only [up, if_neg e]; exact h.x0 g' hg'
  · intro s hs
    rw [put2_other _ _ (by omega), put2_other _ _ (by omega)]
    unfold granted
    rw [put2_other _ _ (by omega)]
    by_cases e : s = t
    · subst e; rw [put2_same]; simp [up]
    · rw [put2_other _ _ (by omega), put2_other _ _ (by omega)]; simp only [up, if_neg e]; exact h.x1 s hs
  · intro s hs
    rw [put2_other _ _ (by omega), put2_other _ _ (by omega)]
    unfold granted
    by_cases e : s = t
    · subst e; rw [put2_same]; simp [up]
    · rw [put2_other _ _ (by omega), put2_other _ _ (by omega), put2_other _ _ (by omega)]; simp only [up, if_neg e]; exact h.x2 s hs
  · intro s hs
    rw [put2_other _ _ (by omega)]
    by_cases e : s = t
    · subst e; rw [put2_same]; simp only [up, if_true]; rw [ic_app]; rfl
    · rw [put2_other _ _ (by omega)]
      unfold granted
      rw [put2_other _ _ (by omega), put2_other _ _ (by omega), put2_other _ _ (by omega)]; simp only [up, if_neg e]; exact h.x3 s hs
  · intro s hs g' hg'
    by_cases e : s = t
    · simp [up, e] at hg'
    · simp only [up, if_neg e] at hg'; exact h.rq s hs g' hg'
  · intro g' hg' s hs
    by_cases e : g' = g
    · simp [up, e] at hs; omega
    · simp only [up, if_neg e] at hs; exact h.ho g' hg' s hs
  · intro s hs g'
    by_cases e : s = t
    · subst e
      simp only [up, if_true, List.mem_append, List.mem_singleton]
      rw [h.mem s hs g']
      by_cases e2 : g' = g
      · subst e2; simp [hg]
      · simp [e2]
    · simp only [up, if_neg e]
      rw [h.mem s hs g']
      by_cases e2 : g' = g
      · subst e2
        simp only [if_true, hfree]
        constructor
        · rintro ⟨_, h3⟩; cases h3
        · rintro ⟨_, h3⟩; simp at h3; omega
      · simp [e2]
  · intro s hs
    by_cases e : s = t
    · subst e
      simp only [up, if_true]
      refine List.nodup_append.2 ⟨h.nd s hs, by simp, ?_⟩
      intro x hx y hy e2
      obtain rfl : y = g := by simpa using hy
      subst e2
      have := ((h.mem s hs x).1 hx).2
      rw [hfree] at this
      cases this
    · simp only [up, if_neg e]; exact h.nd s hs
end Go.Proofs.Qxb6616109a
