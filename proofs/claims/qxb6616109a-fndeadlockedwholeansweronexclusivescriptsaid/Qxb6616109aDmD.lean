import Derived.Test.Qxb6616109aDmC
namespace Go.Proofs.Qxb6616109a
open Go.RowKit Go.Deep Go.Joins
set_option linter.unusedSimpArgs false
set_option linter.unusedVariables false

/-- The first of the least. -/
def minF (c : Nat → Nat → Int) (m : Nat) : List Nat → Nat
  | [] => m
  | x :: xs => minF c (if c x m < 0 then x else m) xs
theorem minF_snoc (c : Nat → Nat → Int) (m : Nat) (l : List Nat) (x : Nat) : minF c m (l ++ [x]) = if c x (minF c m l) < 0 then x else minF c m l := by
  induction l generalizing m with
  | nil => rfl
  | cons y ys ih => simp only [List.cons_append, minF]; exact ih _
theorem minF_mem (c : Nat → Nat → Int) (m : Nat) (l : List Nat) : minF c m l = m ∨ minF c m l ∈ l := by
  induction l generalizing m with
  | nil => exact .inl rfl
  | cons y ys ih =>
    simp only [minF]
    rcases ih (if c y m < 0 then y else m) with h | h
    · rw [h]
      split
      · exact .inr (by simp)
      · exact .inl rfl
    · exact .inr (by simp [h])

set_option maxHeartbeats 1000000 in
theorem min44 (g cap x0 : Nat) (P : List Nat) (fv : Value) (fi : Nat) (cp : Array Value) (hfv : fv = .func (.func 45) #[] cp) (bx : Nat) (hcp : cp = #[.pointer (some ⟨bx, 0, none⟩)]) (c : Nat → Nat → Int) (w : World) (hg : g < w.heap.size) (hP : ∀ i x : Nat, (x0 :: P)[i]? = some x → w.cell? ⟨g, i, none⟩ = some (.int .i64 (x : Int))) (hl : P.length ≤ 65535)
    (hk : ∀ W a b, Below w.heap.size w W → a ∈ x0 :: P → b ∈ x0 :: P → Calls Try.prog 45 #[.int .i64 (a : Nat), .int .i64 (b : Nat), .pointer (some ⟨bx, 0, none⟩)] W fun e W' => e = .returned (.int .i64 (c a b)) ∧ Below W.heap.size W W') :
    Calls Try.prog 44 #[.slice (some ⟨g, 0, none⟩) (P.length + 1) cap, fv] w fun e w' => e = .returned (.int .i64 ((minF c x0 P : Nat) : Int)) ∧ Below w.heap.size w w' := by
  subst hfv hcp
  have h0 : w.cell? ⟨g, 0, none⟩ = some (.int .i64 (x0 : Int)) := hP 0 x0 rfl
  have HP : Hid (∀ i x : Nat, (x0 :: P)[i]? = some x → w.cell? ⟨g, i, none⟩ = some (.int .i64 (x : Int))) := hP
  have HK : Hid (∀ W a b, Below w.heap.size w W → a ∈ x0 :: P → b ∈ x0 :: P → Calls Try.prog 45 #[.int .i64 (a : Nat), .int .i64 (b : Nat), .pointer (some ⟨bx, 0, none⟩)] W fun e W' => e = .returned (.int .i64 (c a b)) ∧ Below W.heap.size W W') := hk
  clear hP hk
  obtain ⟨n, hn⟩ : ∃ n, P.length = n := ⟨_, rfl⟩
  rw [hn] at hl ⊢
  have hn1 : ((n : Int) + 1 < 1) = False := by simp; omega
  go_enter Try.func44, Try.ntmps44
  go_wp2_with fail
  go_loopw [5, 6] (fun m i wr => ∃ k : Nat, k ≤ n ∧ i = .int .i64 ((k : Int) + 1) ∧ m = .int .i64 ((minF c x0 (P.take k) : Nat) : Int) ∧ Below w.heap.size w wr) (fun _ i _ => n + 1 - (intOf i).toNat)
  case atStart => exact ⟨0, by omega, rfl, by simp [minF], Below.refl _ _⟩
  case round =>
    obtain ⟨k, hk, rfl, rfl, hB⟩ := hrel
    obtain ⟨m, hm⟩ : ∃ m, minF c x0 (P.take k) = m := ⟨_, rfl⟩
    by_cases hkn : k < n
    · have hat : P[k]? = some (P[k]'(by omega)) := List.getElem?_eq_getElem (by omega)
      obtain ⟨x, hx⟩ : ∃ x, P[k]'(by omega) = x := ⟨_, rfl⟩
      rw [hx] at hat
      have hcell : wr.cell? ⟨g, k + 1, none⟩ = some (.int .i64 (x : Int)) := (World.cell?_of_block (hB.block g hg)).trans (HP.out (k + 1) x (by simpa using hat))
      have hmm : m ∈ x0 :: P := by
        rw [← hm]
        rcases minF_mem c x0 (P.take k) with h | h
        · rw [h]; simp
        · exact List.mem_cons_of_mem _ (List.mem_of_mem_take h)
      have hxm : x ∈ x0 :: P := List.mem_cons_of_mem _ (List.mem_of_getElem? hat)
      have hnext : minF c x0 (P.take (k + 1)) = if c x m < 0 then x else m := by
        rw [List.take_add_one, hat]
        simp only [Option.toList_some]
        rw [minF_snoc, hm]
      have k45 := HK.out wr x m hB hxm hmm
      rw [hm]
      have HN : Hid (minF c x0 (P.take (k + 1)) = if c x m < 0 then x else m) := hnext
      have HB : Hid (Below w.heap.size w wr) := hB
      have hws := hB.size
      clear hnext hmm hxm hat hB hm hx h0
      obtain ⟨cv, hcv⟩ : ∃ cv, c x m = cv := ⟨_, rfl⟩
      rw [hcv] at HN k45
      clear hcv
      have t1 : ((k : Int) + 1 < (n : Int) + 1) = True := by simp; omega
      go_wp2_with fail
      refine k45.mono ?_
      rintro e w2 ⟨rfl, hB2⟩
      have HB2 : Hid (Below w.heap.size w w2) := HB.out.trans (hB2.mono hws)
      have hcell2 : w2.cell? ⟨g, k + 1, none⟩ = some (.int .i64 (x : Int)) := (hB2.cell (World.block_lt_of_cell? wr _ hcell)).trans hcell
      clear hB2 k45
      dsimp only
      by_cases hc : cv < 0
      · have HN2 : Hid (minF c x0 (P.take (k + 1)) = x) := by have := HN.out; rw [if_pos hc] at this; exact this
        go_wp2
        go_roundw
        case rel => exact ⟨k + 1, by omega, by go_num, by rw [HN2.out], HB2.out⟩
        case measure => simp [intOf]; omega
      · have HN2 : Hid (minF c x0 (P.take (k + 1)) = m) := by have := HN.out; rw [if_neg hc] at this; exact this
        go_wp2
        go_roundw
        case rel => exact ⟨k + 1, by omega, by go_num, by rw [HN2.out], HB2.out⟩
        case measure => simp [intOf]; omega
    · obtain rfl : k = n := by omega
      have e1 : P.take k = P := List.take_of_length_le (by omega)
      rw [e1]
      have HB : Hid (Below w.heap.size w wr) := hB
      clear hB
      go_wp2
      go_ret
      exact ⟨rfl, HB.out⟩
end Go.Proofs.Qxb6616109a
