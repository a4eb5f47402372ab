import Derived.Test.Qxb6616109aDlK
namespace Go.Proofs.Qxb6616109a
open Go.RowKit Go.Deep Go.Joins
set_option linter.unusedSimpArgs false
set_option linter.unusedVariables false

variable {w w1 : World} {B : Bk} {N nT nG : Nat} {lim : Nat → Nat} {V : Nat → Nat → Value} {X : Nat → Nat → List Value} {md : Nat → Int}

theorem neq28 (w : World) : (binOp .neq 28 .nilFunc .nilFunc).run Try.prog w = .ok (.bool false) w := by kernel_rfl

/-- What the granting of g to t makes of the rows. -/
def granted (X : Nat → Nat → List Value) (t g : Nat) (l : List Nat) : Nat → Nat → List Value := put2 (put2 (put2 X 0 g (hc (some t))) 1 t (ic (l ++ [g]))) 2 t (ic [])
/-- What the refusal of g to t makes of the rows. -/
def refused (X : Nat → Nat → List Value) (t g : Nat) : Nat → Nat → List Value := put2 X 2 t (ic [g])

set_option maxHeartbeats 1000000 in
set_option maxRecDepth 100000 in
theorem take18_free (t g bg og c0 : Nat) (l r : List Nat) (w : World) (h : Lk w B N nT nG lim V X md) (hl0 : lim 0 = nG) (hl1 : lim 1 = nT) (hl2 : lim 2 = nT) (ht : t < nT) (hg : g < nG) (hx0 : X 0 g = hc none) (hx1 : X 1 t = ic l) (hx2 : X 2 t = ic r) (hll : l.length ≤ 65536) (hnT : nT ≤ 4096) (hnG : nG ≤ 65536)
    (hbg : w.cell? ⟨bg, og, none⟩ = some (.int .i64 g)) :
    Calls Try.prog 18 #[.pointer (some ⟨B.p, 0, none⟩), .int .i64 t, .agg #[.slice (some ⟨bg, og, none⟩) 1 c0, .int .u8 2]] w fun e w' => e = .returned (.bool true) ∧ (∃ V' md', Lk w' B N nT nG lim V' (granted X t g l) md') ∧ Fr B N w w' := by
  have hB1 : Below w.heap.size w (w.alloc (.cells #[.slice (some ⟨bg, og, none⟩) 1 c0, .int .u8 2] 54)) := (Below.refl _ _).alloc (Nat.le_refl _) _
  have hb0 : (w.alloc (.cells #[.slice (some ⟨bg, og, none⟩) 1 c0, .int .u8 2] 54)).cell? ⟨w.heap.size, 0, none⟩ = some (.slice (some ⟨bg, og, none⟩) 1 c0) := cell_newest w _ 54 0
  have hb1 : (w.alloc (.cells #[.slice (some ⟨bg, og, none⟩) 1 c0, .int .u8 2] 54)).cell? ⟨w.heap.size, 1, none⟩ = some (.int .u8 2) := cell_newest w _ 54 1
  have hsz : (w.alloc (.cells #[.slice (some ⟨bg, og, none⟩) 1 c0, .int .u8 2] 54)).heap.size = w.heap.size + 1 := by simp
  have hN := h.size
  obtain ⟨w1, hw1⟩ : ∃ w1, w.alloc (.cells #[.slice (some ⟨bg, og, none⟩) 1 c0, .int .u8 2] 54) = w1 := ⟨_, rfl⟩
  rw [hw1] at hB1 hb0 hb1 hsz
  have HW1 : Hid (w.alloc (.cells #[.slice (some ⟨bg, og, none⟩) 1 c0, .int .u8 2] 54) = w1) := hw1
  have k1 := drop30 t (h.later hB1) ht
  have key : ∀ w3, Below w1.heap.size w1 w3 → Calls Try.prog 31 #[.pointer (some ⟨B.p, 0, none⟩), .int .i64 t, .agg #[.slice (some ⟨bg, og, none⟩) 1 c0, .int .u8 2]] w3 (fun e w' => e = .returned (.bool false) ∧ Below w3.heap.size w3 w') ∧
      Calls Try.prog 33 #[.pointer (some ⟨B.p, 0, none⟩), .int .i64 t, .int .u8 2, .slice (some ⟨bg, og, none⟩) 1 c0] w3 (fun e w' => e = .returned (.tuple #[]) ∧ (∃ V', Lk w' B N nT nG lim V' (granted X t g l) md) ∧ Fr B N w3 w') ∧
      w3.cell? ⟨w.heap.size, 0, none⟩ = some (.slice (some ⟨bg, og, none⟩) 1 c0) ∧ w3.cell? ⟨w.heap.size, 1, none⟩ = some (.int .u8 2) ∧ Fr B N w w3 := by
    intro w3 hB3
    have hB : Below w.heap.size w w3 := hB1.trans (hB3.mono (by omega))
    have h3 := h.later hB
    have hbg3 := (hB.cell (World.block_lt_of_cell? w _ hbg)).trans hbg
    obtain ⟨A, l0, c, hv0, hr0, _⟩ := h3.hrow hl0 hg hx0
    have kw := waits31 B.p B.ho B.qu nG g t A l0 c none bg og c0 2 w3 hnG hg (h3.tab hg hv0) hr0 hbg3
    refine ⟨kw, give33 t g bg og c0 l r w3 h3 hl0 hl1 hl2 ht hg hx0 hx1 hx2 hll hnT hnG hbg3, ?_, ?_, Fr.of_below hB hN⟩
    · exact (hB3.cell (World.block_lt_of_cell? w1 _ hb0)).trans hb0
    · exact (hB3.cell (World.block_lt_of_cell? w1 _ hb1)).trans hb1
  have HKEY : Hid (∀ w3, Below w1.heap.size w1 w3 → Calls Try.prog 31 #[.pointer (some ⟨B.p, 0, none⟩), .int .i64 t, .agg #[.slice (some ⟨bg, og, none⟩) 1 c0, .int .u8 2]] w3 (fun e w' => e = .returned (.bool false) ∧ Below w3.heap.size w3 w') ∧
      Calls Try.prog 33 #[.pointer (some ⟨B.p, 0, none⟩), .int .i64 t, .int .u8 2, .slice (some ⟨bg, og, none⟩) 1 c0] w3 (fun e w' => e = .returned (.tuple #[]) ∧ (∃ V', Lk w' B N nT nG lim V' (granted X t g l) md) ∧ Fr B N w3 w') ∧
      w3.cell? ⟨w.heap.size, 0, none⟩ = some (.slice (some ⟨bg, og, none⟩) 1 c0) ∧ w3.cell? ⟨w.heap.size, 1, none⟩ = some (.int .u8 2) ∧ Fr B N w w3) := key
  clear key h hx0 hx1 hx2 hl0 hl1 hl2 hbg hB1 hw1
  go_enter Try.func18, Try.ntmps18
  go_wp2_with fail
  rw [HW1.out]
  refine k1.mono ?_
  rintro e w2 ⟨rfl, hB2⟩
  obtain ⟨k31, _, d0, d1, _⟩ := HKEY.out w2 hB2
  dsimp only
  go_wp2_with fail
  refine k31.mono ?_
  rintro e w3 ⟨rfl, hB3⟩
  clear k31 d0 d1 k1
  obtain ⟨_, k33, d0, d1, f3⟩ := HKEY.out w3 (hB2.trans (hB3.mono hB2.size))
  dsimp only
  go_wp2_with fail
  refine k33.mono ?_
  rintro e w4 ⟨rfl, ⟨V', hV⟩, hF⟩
  clear k33 d0 d1
  dsimp only
  go_wp2
  go_ret
  exact ⟨rfl, ⟨V', md, hV⟩, f3.trans hF⟩

set_option maxHeartbeats 1000000 in
set_option maxRecDepth 100000 in
theorem take18_held (t u g bg og c0 : Nat) (r : List Nat) (w : World) (h : Lk w B N nT nG lim V X md) (hl0 : lim 0 = nG) (hl2 : lim 2 = nT) (ht : t < nT) (hg : g < nG) (hu : u ≠ t) (hx0 : X 0 g = hc (some u)) (hx2 : X 2 t = ic r) (hnT : nT ≤ 4096) (hnG : nG ≤ 65536)
    (hbg : w.cell? ⟨bg, og, none⟩ = some (.int .i64 g)) :
    Calls Try.prog 18 #[.pointer (some ⟨B.p, 0, none⟩), .int .i64 t, .agg #[.slice (some ⟨bg, og, none⟩) 1 c0, .int .u8 2]] w fun e w' => e = .returned (.bool false) ∧ (∃ V' md', Lk w' B N nT nG lim V' (refused X t g) md') ∧ Fr B N w w' := by
  have hB1 : Below w.heap.size w (w.alloc (.cells #[.slice (some ⟨bg, og, none⟩) 1 c0, .int .u8 2] 54)) := (Below.refl _ _).alloc (Nat.le_refl _) _
  have hb0 : (w.alloc (.cells #[.slice (some ⟨bg, og, none⟩) 1 c0, .int .u8 2] 54)).cell? ⟨w.heap.size, 0, none⟩ = some (.slice (some ⟨bg, og, none⟩) 1 c0) := cell_newest w _ 54 0
  have hb1 : (w.alloc (.cells #[.slice (some ⟨bg, og, none⟩) 1 c0, .int .u8 2] 54)).cell? ⟨w.heap.size, 1, none⟩ = some (.int .u8 2) := cell_newest w _ 54 1
  have hsz : (w.alloc (.cells #[.slice (some ⟨bg, og, none⟩) 1 c0, .int .u8 2] 54)).heap.size = w.heap.size + 1 := by simp
  have hN := h.size
  obtain ⟨w1, hw1⟩ : ∃ w1, w.alloc (.cells #[.slice (some ⟨bg, og, none⟩) 1 c0, .int .u8 2] 54) = w1 := ⟨_, rfl⟩
  rw [hw1] at hB1 hb0 hb1 hsz
  have HW1 : Hid (w.alloc (.cells #[.slice (some ⟨bg, og, none⟩) 1 c0, .int .u8 2] 54) = w1) := hw1
  have k1 := drop30 t (h.later hB1) ht
  have key : ∀ w3, Below w1.heap.size w1 w3 → Calls Try.prog 31 #[.pointer (some ⟨B.p, 0, none⟩), .int .i64 t, .agg #[.slice (some ⟨bg, og, none⟩) 1 c0, .int .u8 2]] w3 (fun e w' => e = .returned (.bool true) ∧ Below w3.heap.size w3 w') ∧
      Calls Try.prog 32 #[.pointer (some ⟨B.p, 0, none⟩), .int .i64 t, .agg #[.slice (some ⟨bg, og, none⟩) 1 c0, .int .u8 2]] w3 (fun e w' => e = .returned (.tuple #[]) ∧ (∃ V' md', Lk w' B N nT nG lim V' (refused X t g) md') ∧ Fr B N w3 w') ∧
      w3.cell? ⟨w.heap.size, 0, none⟩ = some (.slice (some ⟨bg, og, none⟩) 1 c0) ∧ w3.cell? ⟨w.heap.size, 1, none⟩ = some (.int .u8 2) ∧ Fr B N w w3 := by
    intro w3 hB3
    have hB : Below w.heap.size w w3 := hB1.trans (hB3.mono (by omega))
    have h3 := h.later hB
    have hbg3 := (hB.cell (World.block_lt_of_cell? w _ hbg)).trans hbg
    obtain ⟨A, l0, c, hv0, hr0, _⟩ := h3.hrow hl0 hg hx0
    have kw := waits31 B.p B.ho B.qu nG g t A l0 c (some u) bg og c0 2 w3 hnG hg (h3.tab hg hv0) hr0 hbg3
    have e : (!(edge (some u) t).isEmpty) = true := by simp [edge, hu]
    rw [e] at kw
    refine ⟨kw, refuse32 t g bg og c0 r w3 h3 hl2 ht hx2 hnT hbg3, ?_, ?_, Fr.of_below hB hN⟩
    · exact (hB3.cell (World.block_lt_of_cell? w1 _ hb0)).trans hb0
    · exact (hB3.cell (World.block_lt_of_cell? w1 _ hb1)).trans hb1
  have HKEY : Hid (∀ w3, Below w1.heap.size w1 w3 → Calls Try.prog 31 #[.pointer (some ⟨B.p, 0, none⟩), .int .i64 t, .agg #[.slice (some ⟨bg, og, none⟩) 1 c0, .int .u8 2]] w3 (fun e w' => e = .returned (.bool true) ∧ Below w3.heap.size w3 w') ∧
      Calls Try.prog 32 #[.pointer (some ⟨B.p, 0, none⟩), .int .i64 t, .agg #[.slice (some ⟨bg, og, none⟩) 1 c0, .int .u8 2]] w3 (fun e w' => e = .returned (.tuple #[]) ∧ (∃ V' md', Lk w' B N nT nG lim V' (refused X t g) md') ∧ Fr B N w3 w') ∧
      w3.cell? ⟨w.heap.size, 0, none⟩ = some (.slice (some ⟨bg, og, none⟩) 1 c0) ∧ w3.cell? ⟨w.heap.size, 1, none⟩ = some (.int .u8 2) ∧ Fr B N w w3) := key
  clear key h hx0 hx2 hl0 hl2 hbg hB1 hw1
  go_enter Try.func18, Try.ntmps18
  go_wp2_with fail
  rw [HW1.out]
  refine k1.mono ?_
  rintro e w2 ⟨rfl, hB2⟩
  obtain ⟨k31, _, d0, d1, _⟩ := HKEY.out w2 hB2
  dsimp only
  go_wp2_with fail
  refine k31.mono ?_
  rintro e w3 ⟨rfl, hB3⟩
  clear k31 d0 d1 k1
  obtain ⟨_, k33, d0, d1, f3⟩ := HKEY.out w3 (hB2.trans (hB3.mono hB2.size))
  dsimp only
  go_wp2_with fail
  refine k33.mono ?_
  rintro e w4 ⟨rfl, hV, hF⟩
  clear k33 d0 d1
  dsimp only
  go_wp2
  go_ret
  exact ⟨rfl, hV, f3.trans hF⟩

set_option maxHeartbeats 1000000 in
set_option maxRecDepth 100000 in
theorem lock7_free (t g bg og c0 : Nat) (l r : List Nat) (w : World) (h : Lk w B N nT nG lim V X md) (hl0 : lim 0 = nG) (hl1 : lim 1 = nT) (hl2 : lim 2 = nT) (ht : t < nT) (hg : g < nG) (hx0 : X 0 g = hc none) (hx1 : X 1 t = ic l) (hx2 : X 2 t = ic r) (hll : l.length ≤ 65536) (hnT : nT ≤ 4096) (hnG : nG ≤ 65536)
    (hbg : w.cell? ⟨bg, og, none⟩ = some (.int .i64 g)) :
    Calls Try.prog 7 #[.pointer (some ⟨B.p, 0, none⟩), .int .i64 t, .slice (some ⟨bg, og, none⟩) 1 c0, .int .u8 2] w fun e w' => e = .returned (.bool true) ∧ (∃ V' md', Lk w' B N nT nG lim V' (granted X t g l) md') ∧ Fr B N w w' := by
  have k := take18_free t g bg og c0 l r w h hl0 hl1 hl2 ht hg hx0 hx1 hx2 hll hnT hnG hbg
  clear h hx0 hx1 hx2 hl0 hl1 hl2 hbg
  go_enter Try.func7, Try.ntmps7
  go_wp2_with fail
  refine k.mono ?_
  rintro e w1 ⟨rfl, hV, hF⟩
  dsimp only
  go_wp2
  go_ret
  exact ⟨rfl, hV, hF⟩

set_option maxHeartbeats 1000000 in
set_option maxRecDepth 100000 in
theorem lock7_held (t u g bg og c0 : Nat) (r : List Nat) (w : World) (h : Lk w B N nT nG lim V X md) (hl0 : lim 0 = nG) (hl2 : lim 2 = nT) (ht : t < nT) (hg : g < nG) (hu : u ≠ t) (hx0 : X 0 g = hc (some u)) (hx2 : X 2 t = ic r) (hnT : nT ≤ 4096) (hnG : nG ≤ 65536)
    (hbg : w.cell? ⟨bg, og, none⟩ = some (.int .i64 g)) :
    Calls Try.prog 7 #[.pointer (some ⟨B.p, 0, none⟩), .int .i64 t, .slice (some ⟨bg, og, none⟩) 1 c0, .int .u8 2] w fun e w' => e = .returned (.bool false) ∧ (∃ V' md', Lk w' B N nT nG lim V' (refused X t g) md') ∧ Fr B N w w' := by
  have k := take18_held t u g bg og c0 r w h hl0 hl2 ht hg hu hx0 hx2 hnT hnG hbg
  clear h hx0 hx2 hl0 hl2 hbg
  go_enter Try.func7, Try.ntmps7
  go_wp2_with fail
  refine k.mono ?_
  rintro e w1 ⟨rfl, ⟨V', md', hV⟩, hF⟩
  have c5 := hV.still.c5
  have hq : ∀ w, (binOp .neq 28 .nilFunc .nilFunc).run Try.prog w = .ok (.bool false) w := neq28
  dsimp only
  go_wp2
  go_ret
  exact ⟨rfl, ⟨V', md', hV⟩, hF⟩
end Go.Proofs.Qxb6616109a
