import Derived.RangeFuncNested
import Derived.RangeFuncBound
import Derived.RangeFuncCalls
import Derived.RangeFuncLeaves
import Derived.Shelf.Abstract
import Derived.Shelf.RegionOpen
import Derived.WalkKit
import Derived.OwnWalkIn
import Derived.TacticsInMore
import Derived.LoopNIn
import Derived.LoopIn
import Derived.Test.Qxb6616109aDlB
namespace Go.Proofs.Qxb6616109a
open Go.RowKit Go.Deep Go.Joins Go.Shelf
set_option linter.unusedVariables false
attribute [local go_sem] Oper.semAt_some

/-- Whom a request on a granule with holder ho waits for. -/
def edge (ho : Option Nat) (s : Nat) : List Nat := match ho with
  | some t => if t = s then [] else [t]
  | none => []

/-- Below n₀, but for S, the blocks are as they were. -/
def KpS (n₀ : Nat) (S : Nat → Prop) (W W' : World) : Prop := ∀ b, b < n₀ → ¬ S b → W'.heap[b]? = W.heap[b]?

theorem KpS.cell {n₀ : Nat} {S : Nat → Prop} {W W' : World} (h : KpS n₀ S W W') {b i : Nat} {v : Value} (hb : b < n₀ ∧ ¬ S b) (hc : W.cell? ⟨b, i, none⟩ = some v) : W'.cell? ⟨b, i, none⟩ = some v :=
  (World.cell?_of_block (h b hb.1 hb.2)).trans hc

theorem grownBy_of_below {W W' : World} (h : Below W.heap.size W W') : W.grownBy W' none := ⟨h.os, h.tape, h.output, h.size, fun k hk _ => h.block k hk⟩

theorem abide_below {β : Type} {B : Nat} {J : β → World → Prop} (hJ : AbidesFrom B J) {s : β} {W W' : World} (h : J s W) (hb : Below W.heap.size W W') : J s W' :=
  hJ s W W' none h (grownBy_of_below hb) (fun r e => by cases e)

set_option maxHeartbeats 1000000 in
set_option maxRecDepth 100000 in
/-- The request has no granules: nothing comes. -/
theorem it62_none (l Br Bl Bt : Nat) (Ag : Option Addr) (cg : Nat) (W : World) (hBr : W.cell? ⟨Br, 0, none⟩ = some (.slice Ag 0 cg)) (R : Ending → World → Prop) (hR : R (.returned (.tuple #[])) W) :
    CallsIn Fence.wide 4 Try.prog 62 #[.func (.yield l) #[] #[], .pointer (some ⟨Br, 0, none⟩), .pointer (some ⟨Bl, 0, none⟩), .pointer (some ⟨Bt, 0, none⟩)] W R := by
  refine callsIn_of_wp Try.func62 rfl trivial ?_ rfl
  simp only [Try.ntmps62, List.size_toArray, List.length_cons, List.length_nil, Nat.reduceAdd, Nat.reduceSub, Array.replicate_succ, Array.replicate_zero, List.push_toArray, List.append_toArray, List.nil_append, List.cons_append]
  gi_wp2
  refine wpIn_loop_rounds 1 ?_
  rw [roundsIn_succ]
  gi_wp2
  go_end0
  exact hR

/-- What the iterator reads. -/
structure Look (W : World) (Br Bl Bt p gHo gQ nG : Nat) (g s : Nat) (Ag : Option Addr) (cg : Nat) (m : Int) (A : Option Addr) (l cp : Nat) : Prop where
  r1 : W.cell? ⟨Br, 1, none⟩ = some (.int .u8 m)
  bl : W.cell? ⟨Bl, 0, none⟩ = some (.pointer (some ⟨p, 0, none⟩))
  bt : W.cell? ⟨Bt, 0, none⟩ = some (.int .i64 s)
  c0 : W.cell? ⟨p, 0, none⟩ = some (.slice (some ⟨gHo, 0, none⟩) nG nG)
  c1 : W.cell? ⟨p, 1, none⟩ = some (.slice (some ⟨gQ, 0, none⟩) nG nG)
  ho : W.cell? ⟨gHo, g, none⟩ = some (.slice A l cp)
  qu : W.cell? ⟨gQ, g, none⟩ = some (.slice none 0 0)

theorem Look.below {W W' : World} {Br Bl Bt p gHo gQ nG g s : Nat} {Ag : Option Addr} {cg : Nat} {m : Int} {A : Option Addr} {l cp : Nat} (h : Look W Br Bl Bt p gHo gQ nG g s Ag cg m A l cp) (hb : Below W.heap.size W W') : Look W' Br Bl Bt p gHo gQ nG g s Ag cg m A l cp :=
  ⟨(hb.cell (World.block_lt_of_cell? W _ h.r1)).trans h.r1, (hb.cell (World.block_lt_of_cell? W _ h.bl)).trans h.bl, (hb.cell (World.block_lt_of_cell? W _ h.bt)).trans h.bt, (hb.cell (World.block_lt_of_cell? W _ h.c0)).trans h.c0, (hb.cell (World.block_lt_of_cell? W _ h.c1)).trans h.c1, (hb.cell (World.block_lt_of_cell? W _ h.ho)).trans h.ho, (hb.cell (World.block_lt_of_cell? W _ h.qu)).trans h.qu⟩

theorem Look.kept {W W' : World} {n₀ : Nat} {S : Nat → Prop} {Br Bl Bt p gHo gQ nG g s : Nat} {Ag : Option Addr} {cg : Nat} {m : Int} {A : Option Addr} {l cp : Nat} (h : Look W Br Bl Bt p gHo gQ nG g s Ag cg m A l cp) (hb : KpS n₀ S W W') (hs : ∀ b, b = Br ∨ b = Bl ∨ b = Bt ∨ b = p ∨ b = gHo ∨ b = gQ → b < n₀ ∧ ¬ S b) : Look W' Br Bl Bt p gHo gQ nG g s Ag cg m A l cp :=
  ⟨hb.cell (hs _ (by simp)) h.r1, hb.cell (hs _ (by simp)) h.bl, hb.cell (hs _ (by simp)) h.bt, hb.cell (hs _ (by simp)) h.c0, hb.cell (hs _ (by simp)) h.c1, hb.cell (hs _ (by simp)) h.ho, hb.cell (hs _ (by simp)) h.qu⟩

set_option maxHeartbeats 1000000 in
set_option maxRecDepth 100000 in
/-- Nobody holds the granule: nothing comes. -/
theorem it62_free (l Br Bl Bt p gHo gQ nG g s bg og cg : Nat) (m : Int) (A : Option Addr) (cp : Nat) (W : World) (hg : g < nG) (hnG : nG ≤ 65536)
    (hBr : W.cell? ⟨Br, 0, none⟩ = some (.slice (some ⟨bg, og, none⟩) 1 cg)) (hbg : W.cell? ⟨bg, og, none⟩ = some (.int .i64 g)) (hL : Look W Br Bl Bt p gHo gQ nG g s (some ⟨bg, og, none⟩) cg m A 0 cp)
    (R : Ending → World → Prop) (hR : ∀ W', Below W.heap.size W W' → R (.returned (.tuple #[])) W') :
    CallsIn Fence.wide 4 Try.prog 62 #[.func (.yield l) #[] #[], .pointer (some ⟨Br, 0, none⟩), .pointer (some ⟨Bl, 0, none⟩), .pointer (some ⟨Bt, 0, none⟩)] W R := by
  have k := holds19 p gHo nG g s A 0 cp none W hg hnG hL.c0 hL.ho (.inl ⟨rfl, rfl⟩)
  have e : decide ((none : Option Nat) = some s) = false := by simp
  rw [e] at k
  clear e
  obtain ⟨_, h2, h3, h4, h5, h6, h7⟩ := id hL
  have HL : Hid (Look W Br Bl Bt p gHo gQ nG g s (some ⟨bg, og, none⟩) cg m A 0 cp) := hL
  have HR : Hid (∀ W', Below W.heap.size W W' → R (.returned (.tuple #[])) W') := hR
  clear hL hR
  refine callsIn_of_wp Try.func62 rfl trivial ?_ rfl
  simp only [Try.ntmps62, List.size_toArray, List.length_cons, List.length_nil, Nat.reduceAdd, Nat.reduceSub, Array.replicate_succ, Array.replicate_zero, List.push_toArray, List.append_toArray, List.nil_append, List.cons_append]
  gi_wp2
  refine wpIn_loop_rounds 2 ?_
  rw [roundsIn_succ]
  gi_wp2
  refine wpIn_loop_rounds 1 ?_
  rw [roundsIn_succ]
  gi_wp2_with (refine ⟨trivial, ?_⟩; gi_at_call 19; refine (callsIn_wide.2 k).mono ?_; rintro e w' ⟨rfl, hB⟩; have hL2 := HL.out.below hB; have k4 := hL2.c1; have k5 := hL2.qu; have k6 := hL2.bl; clear hL2 h2 h3 h4 h5 h6 h7)
  refine wpIn_loop_rounds 1 ?_
  rw [roundsIn_succ]
  gi_wp2
  rw [roundsIn_succ]
  gi_wp2
  go_end0
  exact HR.out _ hB

set_option maxHeartbeats 1000000 in
set_option maxRecDepth 100000 in
/-- The transaction itself holds the granule: nothing comes. -/
theorem it62_own (l Br Bl Bt p gHo gQ nG g s bg og cg b cp : Nat) (m : Int) (W : World) (hg : g < nG) (hnG : nG ≤ 65536)
    (hBr : W.cell? ⟨Br, 0, none⟩ = some (.slice (some ⟨bg, og, none⟩) 1 cg)) (hbg : W.cell? ⟨bg, og, none⟩ = some (.int .i64 g)) (hL : Look W Br Bl Bt p gHo gQ nG g s (some ⟨bg, og, none⟩) cg m (some ⟨b, 0, none⟩) 1 cp)
    (hb0 : W.cell? ⟨b, 0, none⟩ = some (.int .i64 s)) (hb1 : W.cell? ⟨b, 1, none⟩ = some (.int .u8 2))
    (R : Ending → World → Prop) (hR : ∀ W', Below W.heap.size W W' → R (.returned (.tuple #[])) W') :
    CallsIn Fence.wide 4 Try.prog 62 #[.func (.yield l) #[] #[], .pointer (some ⟨Br, 0, none⟩), .pointer (some ⟨Bl, 0, none⟩), .pointer (some ⟨Bt, 0, none⟩)] W R := by
  have k : ∀ W1, Below W.heap.size W W1 → Calls Try.prog 19 #[.pointer (some ⟨p, 0, none⟩), .int .i64 s, .int .i64 g] W1 fun e w' => e = .returned (.bool true) ∧ Below W1.heap.size W1 w' := by
    intro W1 hB1
    have hL1 := hL.below hB1
    have k := holds19 p gHo nG g s (some ⟨b, 0, none⟩) 1 cp (some s) W1 hg hnG hL1.c0 hL1.ho (HRow.later (.inr ⟨b, s, rfl, rfl, rfl, hb0, hb1⟩) hB1)
    have e : decide ((some s : Option Nat) = some s) = true := by simp
    rw [e] at k
    exact k
  obtain ⟨_, h2, h3, h4, h5, h6, h7⟩ := id hL
  have HK : Hid (∀ W1, Below W.heap.size W W1 → Calls Try.prog 19 #[.pointer (some ⟨p, 0, none⟩), .int .i64 s, .int .i64 g] W1 fun e w' => e = .returned (.bool true) ∧ Below W1.heap.size W1 w') := k
  have HL : Hid (Look W Br Bl Bt p gHo gQ nG g s (some ⟨bg, og, none⟩) cg m (some ⟨b, 0, none⟩) 1 cp) := hL
  have HR : Hid (∀ W', Below W.heap.size W W' → R (.returned (.tuple #[])) W') := hR
  clear hL hR k
  have l1 := World.block_lt_of_cell? W _ h2
  have l2 := World.block_lt_of_cell? W _ h3
  refine callsIn_of_wp Try.func62 rfl trivial ?_ rfl
  simp only [Try.ntmps62, List.size_toArray, List.length_cons, List.length_nil, Nat.reduceAdd, Nat.reduceSub, Array.replicate_succ, Array.replicate_zero, List.push_toArray, List.append_toArray, List.nil_append, List.cons_append]
  gi_wp2
  refine wpIn_loop_rounds 2 ?_
  rw [roundsIn_succ]
  gi_wp2
  refine wpIn_loop_rounds 2 ?_
  rw [roundsIn_succ]
  gi_wp2
  refine ⟨trivial, ?_⟩
  gi_wp2
  refine ⟨fun _ h => (by cases h), ?_⟩
  gi_wp2
  rw [roundsIn_succ]
  gi_wp2
  refine ⟨trivial, ?_⟩
  have hB1 : Below W.heap.size W (W.alloc (.cells #[.int .i64 (s : Int), .int .u8 2] 60)) := (Below.refl _ _).alloc (Nat.le_refl _) _
  refine (callsIn_wide.2 (HK.out _ hB1)).mono ?_
  rintro e w' ⟨rfl, hB⟩
  have hB2 : Below W.heap.size W w' := hB1.trans (hB.mono (by simp))
  clear hB1 hB
  dsimp only
  gi_wp2
  rw [roundsIn_succ]
  gi_wp2
  go_end0
  exact HR.out _ hB2

/-- The world in which the round is called: the holder lies in a box. -/
def boxed (W : World) (t : Nat) : World := W.alloc (.cells #[.int .i64 (t : Int), .int .u8 2] 60)
theorem boxed_eq (W : World) (t : Nat) : W.alloc (.cells #[.int .i64 (t : Int), .int .u8 2] 60) = boxed W t := rfl

set_option maxHeartbeats 1000000 in
set_option maxRecDepth 100000 in
/-- Another transaction holds the granule: it comes, and nothing more. -/
theorem it62_other (l Br Bl Bt p gHo gQ nG g s t bg og cg b cp n₀ : Nat) (S : Nat → Prop) (m : Int) (W : World) (hts : t ≠ s) (hg : g < nG) (hnG : nG ≤ 65536) (hn₀ : n₀ ≤ W.heap.size)
    (hBr : W.cell? ⟨Br, 0, none⟩ = some (.slice (some ⟨bg, og, none⟩) 1 cg)) (hbg : W.cell? ⟨bg, og, none⟩ = some (.int .i64 g)) (hL : Look W Br Bl Bt p gHo gQ nG g s (some ⟨bg, og, none⟩) cg m (some ⟨b, 0, none⟩) 1 cp)
    (hb0 : W.cell? ⟨b, 0, none⟩ = some (.int .i64 t)) (hb1 : W.cell? ⟨b, 1, none⟩ = some (.int .u8 2)) (hs : ∀ x, x = Br ∨ x = Bl ∨ x = Bt ∨ x = p ∨ x = gHo ∨ x = gQ → x < n₀ ∧ ¬ S x) (hsb : b < n₀ ∧ ¬ S b)
    (G Gx : World → Prop) (hY : YieldAt Fence.wide 3 Try.prog l #[.int .i64 t] (boxed W t) fun e W' => (e = .returned (.bool true) ∧ G W' ∧ KpS n₀ S (boxed W t) W') ∨ (e = .returned (.bool false) ∧ Gx W'))
    (R : Ending → World → Prop) (hR : ∀ W1 W', G W1 → Below W1.heap.size W1 W' → R (.returned (.tuple #[])) W') (hRx : ∀ W', Gx W' → R (.returned (.tuple #[])) W') :
    CallsIn Fence.wide 4 Try.prog 62 #[.func (.yield l) #[] #[], .pointer (some ⟨Br, 0, none⟩), .pointer (some ⟨Bl, 0, none⟩), .pointer (some ⟨Bt, 0, none⟩)] W R := by
  have hB1 : Below W.heap.size W (boxed W t) := (Below.refl _ _).alloc (Nat.le_refl _) _
  have k : ∀ W3, KpS n₀ S (boxed W t) W3 → Look W3 Br Bl Bt p gHo gQ nG g s (some ⟨bg, og, none⟩) cg m (some ⟨b, 0, none⟩) 1 cp ∧ Calls Try.prog 19 #[.pointer (some ⟨p, 0, none⟩), .int .i64 s, .int .i64 g] W3 fun e w' => e = .returned (.bool false) ∧ Below W3.heap.size W3 w' := by
    intro W3 hk
    have hL3 := (hL.below hB1).kept hk hs
    have hr3 : HRow W3 (some ⟨b, 0, none⟩) 1 (some t) := .inr ⟨b, t, rfl, rfl, rfl, hk.cell hsb ((hB1.cell (World.block_lt_of_cell? W _ hb0)).trans hb0), hk.cell hsb ((hB1.cell (World.block_lt_of_cell? W _ hb1)).trans hb1)⟩
    have k := holds19 p gHo nG g s (some ⟨b, 0, none⟩) 1 cp (some t) W3 hg hnG hL3.c0 hL3.ho hr3
    have e : decide ((some t : Option Nat) = some s) = false := by simp [hts]
    rw [e] at k
    exact ⟨hL3, k⟩
  have hne : ((t : Int) == (s : Int)) = false := by simp; omega
  have hne2 : ((t : Int) != (s : Int)) = true := by rw [bne, hne]; rfl
  obtain ⟨h1, h2, h3, h4, h5, h6, h7⟩ := id hL
  have HK : Hid (∀ W3, KpS n₀ S (boxed W t) W3 → Look W3 Br Bl Bt p gHo gQ nG g s (some ⟨bg, og, none⟩) cg m (some ⟨b, 0, none⟩) 1 cp ∧ Calls Try.prog 19 #[.pointer (some ⟨p, 0, none⟩), .int .i64 s, .int .i64 g] W3 fun e w' => e = .returned (.bool false) ∧ Below W3.heap.size W3 w') := k
  have HR : Hid (∀ W1 W', G W1 → Below W1.heap.size W1 W' → R (.returned (.tuple #[])) W') := hR
  have HRx : Hid (∀ W', Gx W' → R (.returned (.tuple #[])) W') := hRx
  obtain ⟨fn, tmps, assign, body, hy, hRd⟩ := hY
  have l0 := World.block_lt_of_cell? W _ h1
  have l1 := World.block_lt_of_cell? W _ h2
  have l2 := World.block_lt_of_cell? W _ h3
  have HRd : Hid (RoundIn Fence.wide 3 Try.prog l fn tmps assign body (boxed W t) fun e W' => (e = .returned (.bool true) ∧ G W' ∧ KpS n₀ S (boxed W t) W') ∨ (e = .returned (.bool false) ∧ Gx W')) := hRd
  clear hL hR hRx k hs hsb hB1 hRd hts
  unfold boxed at hy
  refine callsIn_of_wp Try.func62 rfl trivial ?_ rfl
  simp only [Try.ntmps62, List.size_toArray, List.length_cons, List.length_nil, Nat.reduceAdd, Nat.reduceSub, Array.replicate_succ, Array.replicate_zero, List.push_toArray, List.append_toArray, List.nil_append, List.cons_append]
  gi_wp2
  refine wpIn_loop_rounds 2 ?_
  rw [roundsIn_succ]
  gi_wp2
  refine wpIn_loop_rounds 2 ?_
  rw [roundsIn_succ]
  gi_wp2
  refine ⟨trivial, ?_⟩
  refine (callsIn_wide.2 (conflict63 m _)).mono ?_
  rintro e w' ⟨rfl, hw⟩
  rw [hw]
  dsimp only
  gi_wp2
  clear hy h1 h2 h3 h4 h5 h6 h7 hb0 hb1 hBr hbg
  refine HRd.out.mono ?_
  clear HRd
  rintro e W3 (⟨rfl, hG, hk⟩ | ⟨rfl, hGx⟩)
  · obtain ⟨hL3, k3⟩ := HK.out W3 hk
    obtain ⟨_, k2, k3', k4, k5, k6, k7⟩ := id hL3
    have HL3 : Hid (Look W3 Br Bl Bt p gHo gQ nG g s (some ⟨bg, og, none⟩) cg m (some ⟨b, 0, none⟩) 1 cp) := hL3
    clear hL3 HK
    dsimp only
    gi_wp2
    rw [roundsIn_succ]
    gi_wp2
    refine ⟨trivial, ?_⟩
    refine (callsIn_wide.2 k3).mono ?_
    rintro e w' ⟨rfl, hB⟩
    have hL2 := HL3.out.below hB
    have j4 := hL2.c1
    have j5 := hL2.qu
    have j6 := hL2.bl
    clear hL2 k2 k3' k4 k5 k6 k7 HL3
    dsimp only
    gi_wp2
    refine wpIn_loop_rounds 1 ?_
    rw [roundsIn_succ]
    gi_wp2
    rw [roundsIn_succ]
    gi_wp2
    go_end0
    exact HR.out _ _ hG hB
  · dsimp only
    gi_wp2
    refine bodyPost_ret (results_none rfl _ _ _) rfl ?_
    exact HRx.out _ hGx
end Go.Proofs.Qxb6616109a
