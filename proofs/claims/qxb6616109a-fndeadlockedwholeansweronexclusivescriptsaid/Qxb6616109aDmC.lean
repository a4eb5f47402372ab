import Derived.Test.Qxb6616109aDmB
import Derived.Deep.RegionHeld
import Derived.Deep.RegionHeld3
namespace Go.Proofs.Qxb6616109a
open Go.RowKit Go.Deep Go.Joins
set_option linter.unusedSimpArgs false
set_option linter.unusedVariables false

def cmpI (x y : Int) : Int := if x < y then -1 else if y < x then 1 else 0
def orI (x y : Int) : Int := if x = 0 then y else x

theorem nan59 (x : Int) (w : World) : Calls Try.prog 59 #[.int .i64 x] w fun e w' => e = .returned (.bool false) ∧ w' = w := by
  go_enter Try.func59, Try.ntmps59
  go_wp2
  go_ret
  exact ⟨rfl, rfl⟩

theorem compare47 (x y : Int) (w : World) : Calls Try.prog 47 #[.int .i64 x, .int .i64 y] w fun e w' => e = .returned (.int .i64 (cmpI x y)) ∧ w' = w := by
  have k1 := nan59 x w
  have k2 := nan59 y w
  unfold cmpI
  by_cases h1 : x < y
  · rw [if_pos h1]
    go_enter Try.func47, Try.ntmps47
    go_wp2_with fail
    refine k1.mono ?_
    rintro e w' ⟨rfl, rfl⟩
    dsimp only
    go_wp2_with fail
    refine k2.mono ?_
    rintro e w' ⟨rfl, rfl⟩
    dsimp only
    go_wp2
    go_ret
    exact ⟨rfl, rfl⟩
  · rw [if_neg h1]
    by_cases h2 : y < x
    · rw [if_pos h2]
      go_enter Try.func47, Try.ntmps47
      go_wp2_with fail
      refine k1.mono ?_
      rintro e w' ⟨rfl, rfl⟩
      dsimp only
      go_wp2_with fail
      refine k2.mono ?_
      rintro e w' ⟨rfl, rfl⟩
      dsimp only
      go_wp2
      go_ret
      exact ⟨rfl, rfl⟩
    · rw [if_neg h2]
      go_enter Try.func47, Try.ntmps47
      go_wp2_with fail
      refine k1.mono ?_
      rintro e w' ⟨rfl, rfl⟩
      dsimp only
      go_wp2_with fail
      refine k2.mono ?_
      rintro e w' ⟨rfl, rfl⟩
      dsimp only
      go_wp2
      go_ret
      exact ⟨rfl, rfl⟩

set_option maxHeartbeats 1000000 in
theorem or46 (g c : Nat) (x y : Int) (w : World) (h0 : w.cell? ⟨g, 0, none⟩ = some (.int .i64 x)) (h1 : w.cell? ⟨g, 1, none⟩ = some (.int .i64 y)) :
    Calls Try.prog 46 #[.slice (some ⟨g, 0, none⟩) 2 c] w fun e w' => e = .returned (.int .i64 (orI x y)) ∧ w' = w := by
  have o1 : ¬ x = 0 → orI x y = x := fun h => if_neg h
  have o2 : x = 0 → orI x y = y := fun h => if_pos h
  obtain ⟨r, hr⟩ : ∃ r, orI x y = r := ⟨_, rfl⟩
  rw [hr] at o1 o2 ⊢
  have O1 : Hid (¬ x = 0 → r = x) := o1
  have O2 : Hid (x = 0 → r = y) := o2
  clear o1 o2 hr
  go_enter Try.func46, Try.ntmps46
  go_wp2_with fail
  go_loopw [8] (fun i wr => ∃ k : Nat, i = .int .i64 (k : Int) ∧ k ≤ 2 ∧ wr = w ∧ (1 ≤ k → x = 0) ∧ (2 ≤ k → y = 0)) (fun i _ => 2 - (intOf i).toNat)
  case atStart => exact ⟨0, rfl, by omega, rfl, by omega, by omega⟩
  case round =>
    obtain ⟨k, rfl, hk, hw, e1, e2⟩ := hrel
    subst hw
    have : k = 0 ∨ k = 1 ∨ k = 2 := by omega
    rcases this with rfl | rfl | rfl
    · clear e1 e2
      by_cases hx : x = 0
      · subst hx
        go_wp2
        go_roundw
        case rel => exact ⟨1, rfl, by omega, by first | trivial | rfl, by simp, by omega⟩
        case measure => simp [intOf]
      · have t1 : (x == 0) = false := by simpa using hx
        go_wp2
        go_ret
        exact ⟨by rw [O1.out hx]; rfl, rfl⟩
    · have hx := e1 (by omega)
      subst hx
      clear e1 e2
      by_cases hy : y = 0
      · subst hy
        go_wp2
        go_roundw
        case rel => exact ⟨2, rfl, by omega, by first | trivial | rfl, by simp, by simp⟩
        case measure => simp [intOf]
      · have t1 : (y == 0) = false := by simpa using hy
        go_wp2
        go_ret
        exact ⟨by rw [O2.out (by first | trivial | rfl)]; rfl, rfl⟩
    · have hx := e1 (by omega)
      have hy := e2 (by omega)
      subst hx
      subst hy
      clear e1 e2
      go_wp2
      go_ret
      exact ⟨by rw [O2.out (by first | trivial | rfl)]; rfl, rfl⟩

set_option maxHeartbeats 4000000 in
set_option maxRecDepth 100000 in
theorem less45 (bx p hd at_ nT na ca a b la cpa lb cpb : Nat) (Aa Ab : Option Addr) (ta tb : Int) (w : World) (hnT : nT ≤ 4096) (ha : a < nT) (hb : b < nT) (hna : nT ≤ na) (hla : la ≤ 65536) (hlb : lb ≤ 65536) (hna2 : na ≤ 65536)
    (h0 : w.cell? ⟨bx, 0, none⟩ = some (.pointer (some ⟨p, 0, none⟩))) (h1 : w.cell? ⟨bx, 2, none⟩ = some (.slice (some ⟨at_, 0, none⟩) na ca)) (h2 : w.cell? ⟨p, 2, none⟩ = some (.slice (some ⟨hd, 0, none⟩) nT nT)) (h3 : w.cell? ⟨hd, a, none⟩ = some (.slice Aa la cpa)) (h4 : w.cell? ⟨hd, b, none⟩ = some (.slice Ab lb cpb)) (h5 : w.cell? ⟨at_, a, none⟩ = some (.int .i64 ta)) (h6 : w.cell? ⟨at_, b, none⟩ = some (.int .i64 tb)) :
    Calls Try.prog 45 #[.int .i64 (a : Nat), .int .i64 (b : Nat), .pointer (some ⟨bx, 0, none⟩)] w fun e w' => e = .returned (.int .i64 (orI (cmpI la lb) (cmpI tb ta))) ∧ Below w.heap.size w w' := by
  have l0 := World.block_lt_of_cell? w _ h0
  have l2 := World.block_lt_of_cell? w _ h2
  have l3 := World.block_lt_of_cell? w _ h3
  have l5 := World.block_lt_of_cell? w _ h5
  dsimp only at l0 l2 l3 l5
  have hana : a < na := by omega
  have hbna : b < na := by omega
  go_enter Try.func45, Try.ntmps45
  go_wp2_with fail
  refine wp_region_held_drew (S := (fun w' => w'.cell? ⟨bx, 0, none⟩ = some (.pointer (some ⟨p, 0, none⟩)) ∧ w'.cell? ⟨bx, 2, none⟩ = some (.slice (some ⟨at_, 0, none⟩) na ca) ∧ w'.cell? ⟨p, 2, none⟩ = some (.slice (some ⟨hd, 0, none⟩) nT nT) ∧ w'.cell? ⟨hd, a, none⟩ = some (.slice Aa la cpa) ∧ w'.cell? ⟨hd, b, none⟩ = some (.slice Ab lb cpb) ∧ w'.cell? ⟨at_, a, none⟩ = some (.int .i64 ta) ∧ w'.cell? ⟨at_, b, none⟩ = some (.int .i64 tb))) (by kernel_rfl) ⟨h0, h1, h2, h3, h4, h5, h6⟩ (fun hHeld => ?_)
  refine wpAnyH_take (i := 0) (oi := _) (v := ?_) rfl (by kernel_rfl) (by kernel_rfl) (by kernel_rfl) (fun _ _ _ h => h) (Or.inl ⟨by rfl, ?_⟩) (by assumption) ?_
  rotate_left 1
  · (intro w hSw; (try dsimp only at hSw); go_simp; try with_reducible rfl)
  try simp only [Act.put, List.setIfInBounds_toArray, List.set_cons_zero, List.set_cons_succ]
  refine wpAnyH_take (i := 1) (oi := _) (v := ?_) rfl (by kernel_rfl) (by kernel_rfl) (by kernel_rfl) (fun _ _ _ h => h) (Or.inl ⟨by rfl, ?_⟩) (by assumption) ?_
  rotate_left 1
  · (intro w hSw; (try dsimp only at hSw); go_simp; try with_reducible rfl)
  try simp only [Act.put, List.setIfInBounds_toArray, List.set_cons_zero, List.set_cons_succ]
  refine wpAnyH_take (i := 2) (oi := _) (v := ?_) rfl (by kernel_rfl) (by kernel_rfl) (by kernel_rfl) (fun _ _ _ h => h) (Or.inl ⟨by rfl, ?_⟩) (by assumption) ?_
  rotate_left 1
  · (intro w hSw; (try dsimp only at hSw); go_simp; try with_reducible rfl)
  try simp only [Act.put, List.setIfInBounds_toArray, List.set_cons_zero, List.set_cons_succ]
  refine wpAnyH_take (i := 3) (oi := _) (v := ?_) rfl (by kernel_rfl) (by kernel_rfl) (by kernel_rfl) (fun _ _ _ h => h) (Or.inl ⟨by rfl, ?_⟩) (by assumption) ?_
  rotate_left 1
  · (intro w hSw; (try dsimp only at hSw); go_simp; try with_reducible rfl)
  try simp only [Act.put, List.setIfInBounds_toArray, List.set_cons_zero, List.set_cons_succ]
  refine wpAnyH_take (i := 4) (oi := _) (v := ?_) rfl (by kernel_rfl) (by kernel_rfl) (by kernel_rfl) (fun _ _ _ h => h) (Or.inl ⟨by rfl, ?_⟩) (by assumption) ?_
  rotate_left 1
  · (intro w hSw; (try dsimp only at hSw); go_simp; try with_reducible rfl)
  try simp only [Act.put, List.setIfInBounds_toArray, List.set_cons_zero, List.set_cons_succ]
  refine wpAnyH_take (i := 5) (oi := _) (v := ?_) rfl (by kernel_rfl) (by kernel_rfl) (by kernel_rfl) (fun _ _ _ h => h) (Or.inl ⟨by rfl, ?_⟩) (by assumption) ?_
  rotate_left 1
  · (intro w hSw; (try dsimp only at hSw); go_simp; try with_reducible rfl)
  try simp only [Act.put, List.setIfInBounds_toArray, List.set_cons_zero, List.set_cons_succ]
  refine wpAnyH_take (i := 6) (oi := _) (v := ?_) rfl (by kernel_rfl) (by kernel_rfl) (by kernel_rfl) (fun _ _ _ h => h) (Or.inl ⟨by rfl, ?_⟩) (by assumption) ?_
  rotate_left 1
  · (intro w hSw; (try dsimp only at hSw); go_simp; try with_reducible rfl)
  try simp only [Act.put, List.setIfInBounds_toArray, List.set_cons_zero, List.set_cons_succ]
  refine wpAnyH_take (i := 7) (oi := _) (v := ?_) rfl (by kernel_rfl) (by kernel_rfl) (by kernel_rfl) (fun _ _ _ h => h) (Or.inl ⟨by rfl, ?_⟩) (by assumption) ?_
  rotate_left 1
  · (intro w hSw; (try dsimp only at hSw); go_simp; try with_reducible rfl)
  try simp only [Act.put, List.setIfInBounds_toArray, List.set_cons_zero, List.set_cons_succ]
  refine wpAnyH_take (i := 8) (oi := _) (v := ?_) rfl (by kernel_rfl) (by kernel_rfl) (by kernel_rfl) (fun _ _ _ h => h) (Or.inl ⟨by rfl, ?_⟩) (by assumption) ?_
  rotate_left 1
  · (intro w hSw; (try dsimp only at hSw); go_simp; try with_reducible rfl)
  try simp only [Act.put, List.setIfInBounds_toArray, List.set_cons_zero, List.set_cons_succ]
  refine wpAnyH_take (i := 9) (oi := _) (v := ?_) rfl (by kernel_rfl) (by kernel_rfl) (by kernel_rfl) (fun _ _ _ h => h) (Or.inl ⟨by rfl, ?_⟩) (by assumption) ?_
  rotate_left 1
  · (intro w hSw; (try dsimp only at hSw); go_simp; try with_reducible rfl)
  try simp only [Act.put, List.setIfInBounds_toArray, List.set_cons_zero, List.set_cons_succ]
  refine wpAnyH_take (i := 10) (oi := _) (v := ?_) rfl (by kernel_rfl) (by kernel_rfl) (by kernel_rfl) (fun _ _ _ h => h) (Or.inl ⟨by rfl, ?_⟩) (by assumption) ?_
  rotate_left 1
  · (intro w hSw; (try dsimp only at hSw); go_simp; try with_reducible rfl)
  try simp only [Act.put, List.setIfInBounds_toArray, List.set_cons_zero, List.set_cons_succ]
  refine wpAnyH_take (i := 11) (oi := _) (v := ?_) rfl (by kernel_rfl) (by kernel_rfl) (by kernel_rfl) (fun _ _ _ h => h) (Or.inl ⟨by rfl, ?_⟩) (by assumption) ?_
  rotate_left 1
  · (intro w hSw; (try dsimp only at hSw); go_simp; try with_reducible rfl)
  try simp only [Act.put, List.setIfInBounds_toArray, List.set_cons_zero, List.set_cons_succ]
  refine wpAnyH_take (i := 12) (oi := _) (v := ?_) rfl (by kernel_rfl) (by kernel_rfl) (by kernel_rfl) (fun _ _ _ h => h) (Or.inl ⟨by rfl, ?_⟩) (by assumption) ?_
  rotate_left 1
  · (intro w hSw; (try dsimp only at hSw); go_simp; try with_reducible rfl)
  try simp only [Act.put, List.setIfInBounds_toArray, List.set_cons_zero, List.set_cons_succ]
  refine wpAnyH_take (i := 13) (oi := _) (v := ?_) rfl (by kernel_rfl) (by kernel_rfl) (by kernel_rfl) (fun _ _ _ h => h) (Or.inl ⟨by rfl, ?_⟩) (by assumption) ?_
  rotate_left 1
  · (intro w hSw; (try dsimp only at hSw); go_simp; try with_reducible rfl)
  try simp only [Act.put, List.setIfInBounds_toArray, List.set_cons_zero, List.set_cons_succ]
  refine wpAnyH_take (i := 14) (oi := _) (v := ?_) rfl (by kernel_rfl) (by kernel_rfl) (by kernel_rfl) (fun _ _ _ h => h) (Or.inl ⟨by rfl, ?_⟩) (by assumption) ?_
  rotate_left 1
  · (intro w hSw; (try dsimp only at hSw); go_simp; try with_reducible rfl)
  try simp only [Act.put, List.setIfInBounds_toArray, List.set_cons_zero, List.set_cons_succ]
  refine wpAnyH_take (i := 15) (oi := _) (v := ?_) rfl (by kernel_rfl) (by kernel_rfl) (by kernel_rfl) (fun _ _ _ h => h) (Or.inl ⟨by rfl, ?_⟩) (by assumption) ?_
  rotate_left 1
  · (intro w hSw; (try dsimp only at hSw); go_simp; try with_reducible rfl)
  try simp only [Act.put, List.setIfInBounds_toArray, List.set_cons_zero, List.set_cons_succ]
  refine wpAnyH_take (i := 16) (oi := _) (v := ?_) rfl (by kernel_rfl) (by kernel_rfl) (by kernel_rfl) (fun _ _ _ h => h) (Or.inl ⟨by rfl, ?_⟩) (by assumption) ?_
  rotate_left 1
  · (intro w hSw; (try dsimp only at hSw); go_simp; try with_reducible rfl)
  try simp only [Act.put, List.setIfInBounds_toArray, List.set_cons_zero, List.set_cons_succ]
  refine wpAnyH_take (i := 17) (oi := _) (v := ?_) rfl (by kernel_rfl) (by kernel_rfl) (by kernel_rfl) (fun _ _ _ h => h) (Or.inl ⟨by rfl, ?_⟩) (by assumption) ?_
  rotate_left 1
  · (intro w hSw; (try dsimp only at hSw); go_simp; try with_reducible rfl)
  try simp only [Act.put, List.setIfInBounds_toArray, List.set_cons_zero, List.set_cons_succ]
  refine wpAnyH_take (i := 19) (oi := _) (v := ?_) rfl (by kernel_rfl) (by kernel_rfl) (by kernel_rfl) (fun _ _ _ h => h) (Or.inl ⟨by rfl, ?_⟩) (by assumption) ?_
  rotate_left 1
  · (intro w hSw; (try dsimp only at hSw); go_simp; try with_reducible rfl)
  try simp only [Act.put, List.setIfInBounds_toArray, List.set_cons_zero, List.set_cons_succ]
  refine wpAnyH_take (i := 20) (oi := _) (v := ?_) rfl (by kernel_rfl) (by kernel_rfl) (by kernel_rfl) (fun _ _ _ h => h) (Or.inl ⟨by rfl, ?_⟩) (by assumption) ?_
  rotate_left 1
  · (intro w hSw; (try dsimp only at hSw); go_simp; try with_reducible rfl)
  try simp only [Act.put, List.setIfInBounds_toArray, List.set_cons_zero, List.set_cons_succ]
  refine wpAnyH_take (i := 21) (oi := _) (v := ?_) rfl (by kernel_rfl) (by kernel_rfl) (by kernel_rfl) (fun _ _ _ h => h) (Or.inl ⟨by rfl, ?_⟩) (by assumption) ?_
  rotate_left 1
  · (intro w hSw; (try dsimp only at hSw); go_simp; try with_reducible rfl)
  try simp only [Act.put, List.setIfInBounds_toArray, List.set_cons_zero, List.set_cons_succ]
  refine wpAnyH_take (i := 22) (oi := _) (v := ?_) rfl (by kernel_rfl) (by kernel_rfl) (by kernel_rfl) (fun _ _ _ h => h) (Or.inl ⟨by rfl, ?_⟩) (by assumption) ?_
  rotate_left 1
  · (intro w hSw; (try dsimp only at hSw); go_simp; try with_reducible rfl)
  try simp only [Act.put, List.setIfInBounds_toArray, List.set_cons_zero, List.set_cons_succ]
  refine wpAnyH_take (i := 23) (oi := _) (v := ?_) rfl (by kernel_rfl) (by kernel_rfl) (by kernel_rfl) (fun _ _ _ h => h) (Or.inl ⟨by rfl, ?_⟩) (by assumption) ?_
  rotate_left 1
  · (intro w hSw; (try dsimp only at hSw); go_simp; try with_reducible rfl)
  try simp only [Act.put, List.setIfInBounds_toArray, List.set_cons_zero, List.set_cons_succ]
  refine wpAnyH_take (i := 24) (oi := _) (v := ?_) rfl (by kernel_rfl) (by kernel_rfl) (by kernel_rfl) (fun _ _ _ h => h) (Or.inl ⟨by rfl, ?_⟩) (by assumption) ?_
  rotate_left 1
  · (intro w hSw; (try dsimp only at hSw); go_simp; try with_reducible rfl)
  try simp only [Act.put, List.setIfInBounds_toArray, List.set_cons_zero, List.set_cons_succ]
  refine wpAnyH_take (i := 25) (oi := _) (v := ?_) rfl (by kernel_rfl) (by kernel_rfl) (by kernel_rfl) (fun _ _ _ h => h) (Or.inl ⟨by rfl, ?_⟩) (by assumption) ?_
  rotate_left 1
  · (intro w hSw; (try dsimp only at hSw); go_simp; try with_reducible rfl)
  try simp only [Act.put, List.setIfInBounds_toArray, List.set_cons_zero, List.set_cons_succ]
  refine wpAnyH_take (i := 26) (oi := _) (v := ?_) rfl (by kernel_rfl) (by kernel_rfl) (by kernel_rfl) (fun _ _ _ h => h) (Or.inl ⟨by rfl, ?_⟩) (by assumption) ?_
  rotate_left 1
  · (intro w hSw; (try dsimp only at hSw); go_simp; try with_reducible rfl)
  try simp only [Act.put, List.setIfInBounds_toArray, List.set_cons_zero, List.set_cons_succ]
  refine wpAnyH_take (i := 27) (oi := _) (v := ?_) rfl (by kernel_rfl) (by kernel_rfl) (by kernel_rfl) (fun _ _ _ h => h) (Or.inl ⟨by rfl, ?_⟩) (by assumption) ?_
  rotate_left 1
  · (intro w hSw; (try dsimp only at hSw); go_simp; try with_reducible rfl)
  try simp only [Act.put, List.setIfInBounds_toArray, List.set_cons_zero, List.set_cons_succ]
  refine wpAnyH_take (i := 28) (oi := _) (v := ?_) rfl (by kernel_rfl) (by kernel_rfl) (by kernel_rfl) (fun _ _ _ h => h) (Or.inl ⟨by rfl, ?_⟩) (by assumption) ?_
  rotate_left 1
  · (intro w hSw; (try dsimp only at hSw); go_simp; try with_reducible rfl)
  try simp only [Act.put, List.setIfInBounds_toArray, List.set_cons_zero, List.set_cons_succ]
  refine wpAnyH_ready (rs := [18]) (by kernel_rfl) (by simp) ?_
  refine AllReadyH.cons (o := _) rfl (fun K hK => ?_) AllReadyH.nil
  go_simp
  refine (compare47 la lb _).mono ?_
  rintro e w' ⟨rfl, rfl⟩
  dsimp only
  refine hK.out _ _ ?_ (fun hHeld2 => ?_)
  · exact hHeld
  clear hK K
  try simp only [Act.put, List.setIfInBounds_toArray, List.set_cons_zero, List.set_cons_succ]
  clear hHeld
  have hHeld := hHeld2
  clear hHeld2
  refine wpAnyH_ready (rs := [29]) (by kernel_rfl) (by simp) ?_
  refine AllReadyH.cons (o := _) rfl (fun K hK => ?_) AllReadyH.nil
  go_simp
  refine (compare47 tb ta _).mono ?_
  rintro e w' ⟨rfl, rfl⟩
  dsimp only
  refine hK.out _ _ ?_ (fun hHeld2 => ?_)
  · exact hHeld
  clear hK K
  try simp only [Act.put, List.setIfInBounds_toArray, List.set_cons_zero, List.set_cons_succ]
  clear hHeld
  have hHeld := hHeld2
  clear hHeld2
  refine wpAnyH_ready (rs := [30]) (by kernel_rfl) (by simp) ?_
  refine AllReadyH.cons (o := _) rfl (fun K hK => ?_) AllReadyH.nil
  go_simp
  refine hK.out _ _ ?_ (fun hHeld2 => ?_)
  · ((try dsimp only); go_keep)
  clear hK K
  try simp only [Act.put, List.setIfInBounds_toArray, List.set_cons_zero, List.set_cons_succ]
  clear hHeld
  have hHeld := hHeld2
  clear hHeld2
  refine wpAnyH_ready (rs := [31]) (by kernel_rfl) (by simp) ?_
  refine AllReadyH.cons (o := _) rfl (fun K hK => ?_) AllReadyH.nil
  go_simp
  refine (or46 w.heap.size 2 (cmpI la lb) (cmpI tb ta) _ (cell_newest w.drew _ 3 0) (cell_newest w.drew _ 3 1)).mono ?_
  rintro e w' ⟨rfl, rfl⟩
  dsimp only
  refine hK.out _ _ ?_ (fun hHeld2 => ?_)
  · exact hHeld
  clear hK K
  try simp only [Act.put, List.setIfInBounds_toArray, List.set_cons_zero, List.set_cons_succ]
  clear hHeld
  have hHeld := hHeld2
  clear hHeld2
  refine wpAnyH_ready (rs := [32]) (by kernel_rfl) (by simp) ?_
  refine AllReadyH.cons (o := _) rfl (fun K hK => ?_) AllReadyH.nil
  go_simp
  refine hK.out _ _ ?_ (fun hHeld2 => ?_)
  · exact hHeld
  clear hK K
  try simp only [Act.put, List.setIfInBounds_toArray, List.set_cons_zero, List.set_cons_succ]
  clear hHeld
  have hHeld := hHeld2
  clear hHeld2
  refine wpAnyH_done (by kernel_rfl) ?_ _
  go_wp2
  go_ret
  exact ⟨rfl, ⟨rfl, rfl, rfl, by simp, fun b hb => Below.heap_alloc w _ b hb⟩⟩
end Go.Proofs.Qxb6616109a
