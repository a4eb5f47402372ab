import Derived.Test.Qxb6616109aDlZ
import Derived.Deep.QuietTactic
import Derived.BigQuiet
import Derived.StillTailTactics
namespace Go.Proofs.Qxb6616109a
open Go.RowKit Go.Deep Go.Joins
set_option linter.unusedSimpArgs false
set_option linter.unusedVariables false

variable {N p : Nat} {w w1 : World} {V : Nat → Value} {X : Nat → List Value}

theorem Sx.drewN (h : Sx N p w V X) (d : Nat) : Sx N p (w.drewN d) V X := h.later ⟨rfl, rfl, rfl, Nat.le_refl _, fun _ _ => rfl⟩
theorem Sfr.drewN (h : Sfr N p w w1) (d : Nat) : Sfr N p w (w1.drewN d) := ⟨h.os, h.tape, h.output, h.size, h.block, h.pcell⟩

theorem sx_cut (h : Sx N p w V X) {i : Nat} (hi : i < 4) {A : Option Addr} {l c : Nat} (hv : V i = .slice A l c) :
    Sx N p (w.setCell ⟨p, 11 + i, none⟩ (.slice A 0 c)) (put1 V i (.slice A 0 c)) (put1 X i []) ∧ Sfr N p w (w.setCell ⟨p, 11 + i, none⟩ (.slice A 0 c)) := by
  have hr := h.row i hi
  rw [hv] at hr
  refine sx_put h hi ⟨rfl, rfl, rfl, Nat.le_refl _, fun _ _ _ => rfl, ownsRow_cut hr, fun b hb => ?_⟩
  left
  rw [hv]
  cases A with
  | none => simp [Value.ownBlock] at hb
  | some a => simpa [Value.ownBlock] using hb

theorem own_low {w : World} {b b' n : Nat} {v : Value} {xs : List Value} (h : w.ownsRow b 3 1 v n xs) (hb : b' ≤ b) : w.ownsRow b' 3 1 v n xs := by
  refine ⟨h.1, ?_⟩
  rcases h.2 with h0 | ⟨g, cap, cur, e, h1, r⟩
  · exact .inl h0
  · exact .inr ⟨g, cap, cur, e, by omega, r⟩

/-- The listing of the edges. -/
def NextOk (N p nT : Nat) (w0 : World) (nx : Nat → List Nat) : Prop := ∀ (w : World) (s : Nat) (A0 : Option Addr) (c0 : Nat), s < nT → Sfr N p w0 w → N ≤ w.heap.size → w.ownsRow N 3 1 (.slice A0 0 c0) 0 [] →
  Calls Try.prog 58 #[.pointer (some ⟨p, 0, none⟩), .int .i64 (s : Nat), .slice A0 0 c0] w fun e w' => ∃ A' c', e = .returned (.slice A' (nx s).length c') ∧ Tn N w w' (.slice A0 0 c0) (.slice A' (nx s).length c') (ic (nx s))

/-- The next list: its call, and the store behind it. -/
theorem next_key {nT s l : Nat} {w0 : World} {nx : Nat → List Nat} {A : Option Addr} {c : Nat} (hn : NextOk N p nT w0 nx) (h : Sx N p w V X) (hF : Sfr N p w0 w) (hs : s < nT) (hv : V 3 = .slice A l c) :
    Calls Try.prog 58 #[.pointer (some ⟨p, 0, none⟩), .int .i64 (s : Nat), .slice A 0 c] w fun e w' => ∃ A' c', e = .returned (.slice A' (nx s).length c') ∧ w'.cell? ⟨p, 14, none⟩ = some (.slice A l c) ∧ w'.frozen? ⟨p, 14, none⟩ = false ∧
      Sx N p (w'.setCell ⟨p, 14, none⟩ (.slice A' (nx s).length c')) (put1 V 3 (.slice A' (nx s).length c')) (put1 X 3 (ic (nx s))) ∧ Sfr N p w (w'.setCell ⟨p, 14, none⟩ (.slice A' (nx s).length c')) := by
  have hr := h.row 3 (by decide)
  rw [hv] at hr
  refine (hn w s A c hs hF h.size (ownsRow_cut hr)).mono ?_
  rintro e w' ⟨A', c', rfl, hT⟩
  have eb : (V 3).ownBlock = (Value.slice A 0 c).ownBlock := by rw [hv]; cases A <;> rfl
  have hT' : Tn N w w' (V 3) (.slice A' (nx s).length c') (ic (nx s)) := ⟨hT.os, hT.tape, hT.output, hT.size, fun b hb hne => hT.rest b hb (by rw [← eb]; exact hne), hT.own, fun b hb => by rw [eb]; exact hT.fresh b hb⟩
  have low := hT'.low h (by decide) p h.low
  have hput := sx_put h (i := 3) (by decide) hT'
  refine ⟨A', c', rfl, ?_, ?_, hput.1, hput.2⟩
  · rw [World.cell?_of_block (w := w) low, ← hv]; exact (h.pc 3 (by decide)).1
  · rw [World.frozen?_of_block (w := w) low]; exact (h.pc 3 (by decide)).2

/-- What path gives. -/
def PathPost (N p : Nat) (w0 : World) (res : Option (List Nat)) (e : Ending) (w' : World) : Prop :=
  Sfr N p w0 w' ∧ match res with
    | none => e = .returned (.slice none 0 0)
    | some P => ∃ g cap, e = .returned (.slice (some ⟨g, 0, none⟩) P.length cap) ∧ w'.ownsRow N 3 1 (.slice (some ⟨g, 0, none⟩) P.length cap) P.length (ic P)

/-- The search is on. -/
structure On (N p a nT : Nat) (w0 w : World) (nx : Nat → List Nat) (res : Option (List Nat)) (P : List Nat) (f u : Nat) (V : Nat → Value) (X : Nat → List Value) (F R : List Int) : Prop where
  res : srch nx a f P = res
  fuel : f + P.length = nT + 2
  way : Way P a nT
  fp : FP F P a nT
  lst : P[P.length - 1]? = some u
  sx : Sx N p w V X
  x0 : X 0 = jc F
  x2 : X 2 = jc R
  rl : R.length = P.length
  sfr : Sfr N p w0 w

theorem last_of {P : List Nat} {u a : Nat} (h : P[P.length - 1]? = some u) : P.getLastD a = u := by
  rw [List.getLastD_eq_getLast?, List.getLast?_eq_getElem?, h]
  rfl

def msr (nT p : Nat) (w : World) : Nat := match w.cell? ⟨p, 12, none⟩ with
  | some (.slice _ l _) => if l = 0 then 0 else nT + 5 - (match w.cell? ⟨p, 13, none⟩ with | some (.slice _ k _) => k | _ => 0)
  | _ => 0
theorem msr_off {nT : Nat} (h : Sx N p w V X) (h1 : X 1 = []) : msr nT p w = 0 := by
  obtain ⟨A, c, e⟩ := (show ∃ A c, V 1 = .slice A (X 1).length c from by
    rcases ownsRow_forms (h.row 1 (by decide)) with ⟨e, h0⟩ | ⟨g, cap, e⟩
    · exact ⟨none, 0, by rw [e, h0]⟩
    · exact ⟨_, cap, e⟩)
  have hc : w.cell? ⟨p, 12, none⟩ = some (V 1) := (h.pc 1 (by decide)).1
  rw [e, h1] at hc
  simp [msr, hc]
theorem msr_on {nT : Nat} {u : Nat} (h : Sx N p w V X) (h1 : X 1 = ic [u]) : msr nT p w = nT + 5 - (X 2).length := by
  obtain ⟨A, c, e⟩ := h.form (i := 1) (by decide)
  obtain ⟨A2, c2, e2⟩ := h.form (i := 2) (by decide)
  have hc : w.cell? ⟨p, 12, none⟩ = some (V 1) := (h.pc 1 (by decide)).1
  have hc2 : w.cell? ⟨p, 13, none⟩ = some (V 2) := (h.pc 2 (by decide)).1
  rw [e, h1] at hc
  rw [e2] at hc2
  simp [msr, hc, hc2, ic]

set_option maxHeartbeats 4000000 in
set_option maxRecDepth 100000 in
theorem pathB (a nT : Nat) (w0 w : World) (nx : Nat → List Nat) (res : Option (List Nat)) (hnT : nT ≤ 4096) (ha : a < nT) (hnx : ∀ s, s < nT → nx s = [] ∨ ∃ t, t < nT ∧ nx s = [t]) (hn : NextOk N p nT w0 nx) (F R : List Int) (P : List Nat) (f u : Nat)
    (h : On N p a nT w0 w nx res P f u V X F R) (h1 : X 1 = ic [u]) (RR : Ending → World → Prop) (hRR : ∀ e w', PathPost N p w0 res e w' → RR e w')
    {u9 u10 u11 u12 u13 u14 u15 u16 u17 u18 u19 u20 u21 u22 u23 u24 u25 u26 u27 u28 u29 u30 u31 u32 u33 u34 u35 u36 u37 u38 u39 u40 u41 u42 u43 u44 u45 u46 u47 u48 u49 u50 u51 u52 u53 u54 u55 u56 u57 u58 u59 u60 u61 u62 u63 u64 u65 u66 u67 u68 u69 u70 u71 u72 u73 u74 u75 u76 u77 u78 u79 u80 u81 u82 u83 u84 u85 u86 u87 u88 u89 u90 u91 u92 u93 u94 u95 u96 u97 u98 u99 u100 u101 u102 u103 u104 u105 u106 u107 u108 u109 u110 u111 u112 u113 u114 u115 u116 u117 u118 u119 u120 u121 u122 u123 u124 u125 u126 : Value} :
    Code.wp Try.prog (dropAt 5 (Try.f57.body.getD .skip)) (bodyPost Try.prog Try.f57 RR) ⟨#[.pointer (some ⟨p, 11, none⟩), .int .i64 (a : Nat), .int .i64 (a : Nat), .func (.func 58) #[.pointer (some ⟨p, 0, none⟩)] #[], undef, undef, undef, undef, .slice none 0 0, u9, u10, u11, u12, u13, u14, u15, u16, u17, u18, u19, u20, u21, u22, u23, u24, u25, u26, u27, u28, u29, u30, u31, u32, u33, u34, u35, u36, u37, u38, u39, u40, u41, u42, u43, u44, u45, u46, u47, u48, u49, u50, u51, u52, u53, u54, u55, u56, u57, u58, u59, u60, u61, u62, u63, u64, u65, u66, u67, u68, u69, u70, u71, u72, u73, u74, u75, u76, u77, u78, u79, u80, u81, u82, u83, u84, u85, u86, u87, u88, u89, u90, u91, u92, u93, u94, u95, u96, u97, u98, u99, u100, u101, u102, u103, u104, u105, u106, u107, u108, u109, u110, u111, u112, u113, u114, u115, u116, u117, u118, u119, u120, u121, u122, u123, u124, u125, u126], []⟩ w := by
  conv => arg 2; simp only [Try.f57, Option.getD_some, cutAt, dropAt]
  have HRR : Hid (∀ e w', PathPost N p w0 res e w' → RR e w') := hRR
  have HN : Hid (NextOk N p nT w0 nx) := hn
  have HNX : Hid (∀ s, s < nT → nx s = [] ∨ ∃ t, t < nT ∧ nx s = [t]) := hnx
  clear hRR hn hnx
  go_wp2_with fail
  go_loopw [11] (fun _ wr => (∃ P f u V X F R, On N p a nT w0 wr nx res P f u V X F R ∧ X 1 = ic [u]) ∨ (res = none ∧ ∃ V X, Sx N p wr V X ∧ X 1 = [] ∧ Sfr N p w0 wr)) (fun _ wr => msr nT p wr)
  case atStart => exact .inl ⟨P, f, u, V, X, F, R, h, h1⟩
  case round =>
    clear h h1 F R P f u
    rcases hrel with ⟨P, f, u, V, X, F, R, h, h1⟩ | ⟨hres, V, X, h, h1, hfr⟩
    · have hun : u < nT := h.way.lt u (List.mem_of_getElem? h.lst)
      have hx1 : (X 1)[0]? = some (.int .i64 (u : Int)) := by rw [h1]; rfl
      obtain ⟨g1, cap1, hv1, _, hgs1, hcu, _⟩ := h.sx.at (i := 1) (by decide) hx1
      have hl1 : (X 1).length = 1 := by rw [h1]; rfl
      rw [hl1] at hv1
      have c12 : wr.cell? ⟨p, 12, none⟩ = some (V 1) := (h.sx.pc 1 (by decide)).1
      have f12 : wr.frozen? ⟨p, 12, none⟩ = false := (h.sx.pc 1 (by decide)).2
      rw [hv1] at c12
      obtain ⟨A3, c3, hv3⟩ := h.sx.form (i := 3) (by decide)
      obtain ⟨l3, hl3⟩ : ∃ l3, (X 3).length = l3 := ⟨_, rfl⟩
      rw [hl3] at hv3
      have HON : Hid (On N p a nT w0 wr nx res P f u V X F R) := h
      have HV1 : Hid (V 1 = .slice (some ⟨g1, 0, none⟩) 1 cap1) := hv1
      have HX1 : Hid (X 1 = ic [u]) := h1
      have HV3 : Hid (V 3 = .slice A3 l3 c3) := hv3
      clear h h1 hx1 hl1 hv1 hv3
      go_wp2_with fail
      go_quiet (fail)
      go_wp2_with fail
      obtain ⟨w2, hw2⟩ : ∃ w2, wr.drewN nq = w2 := ⟨_, rfl⟩
      rw [hw2]
      have d12 : w2.cell? ⟨p, 12, none⟩ = some (.slice (some ⟨g1, 0, none⟩) 1 cap1) := by rw [← hw2]; exact c12
      have e12 : w2.frozen? ⟨p, 12, none⟩ = false := by rw [← hw2]; exact f12
      have hsx2 : Sx N p w2 V X := by rw [← hw2]; exact HON.out.sx.drewN _
      have hfr2 : Sfr N p w0 w2 := by rw [← hw2]; exact HON.out.sfr.drewN _
      have hcut := sx_cut (hsx2.drewN 1) (i := 1) (by decide) HV1.out
      obtain ⟨w3, hw3⟩ : ∃ w3, (w2.drewN 1).setCell ⟨p, 11 + 1, none⟩ (.slice (some ⟨g1, 0, none⟩) 0 cap1) = w3 := ⟨_, rfl⟩
      rw [hw3] at hcut
      have hfr3 : Sfr N p w0 w3 := (hfr2.drewN 1).trans hcut.2
      have hsx3 := hcut.1
      have k58 := next_key (l := l3) (A := A3) (c := c3) HN.out hsx3 hfr3 hun (by rw [put1_other _ _ (by decide)]; exact HV3.out)
      have c14 : w3.cell? ⟨p, 14, none⟩ = some (.slice A3 l3 c3) := by
        have := (hsx3.pc 3 (by decide)).1
        rw [put1_other _ _ (show (3 : Nat) ≠ 1 by decide), HV3.out] at this
        exact this
      have d14 : w2.cell? ⟨p, 14, none⟩ = some (.slice A3 l3 c3) := by
        have := (hsx2.pc 3 (by decide)).1
        rw [HV3.out] at this
        exact this
      have HW3 : Hid ((w2.drewN 1).setCell ⟨p, 12, none⟩ (.slice (some ⟨g1, 0, none⟩) 0 cap1) = w3) := hw3
      have HFR3 : Hid (Sfr N p w0 w3) := hfr3
      clear hw2 hw3 hcut hsx2 hfr2 hsx3 hfr3 c12 f12 hcu
      have hw0 : IntKind.i64.wrap 0 = 0 := by kernel_rfl
      go_still_tail 12, (by kernel_rfl)
      rw [show ({ heap := w2.heap, tape := w2.tape, drawn := w2.drawn + 1, os := w2.os, output := w2.output } : World) = w2.drewN 1 from rfl]
      go_wp2_with fail
      rw [HW3.out]
      refine k58.mono ?_
      rintro e w4 ⟨A', c', rfl, d14', e14', hsx4, hfr4⟩
      have hfr5 := HFR3.out.trans hfr4
      have hon := HON.out
      obtain ⟨f', hf'⟩ : ∃ f', f = f' + 1 := ⟨f - 1, by have := hon.fuel; have := hon.way.len; omega⟩
      have hres := hon.res
      rw [hf', srch, last_of hon.lst] at hres
      have hmsr : msr nT p wr = nT + 5 - P.length := by rw [msr_on hon.sx HX1.out, hon.x2, jc_len, hon.rl]
      have hPl := hon.way.len
      obtain ⟨w5, hw5⟩ : ∃ w5, w4.setCell ⟨p, 14, none⟩ (.slice A' (nx u).length c') = w5 := ⟨_, rfl⟩
      rw [hw5] at hsx4 hfr4 hfr5
      obtain ⟨V5, hV5⟩ : ∃ V5, put1 (put1 V 1 (.slice (some ⟨g1, 0, none⟩) 0 cap1)) 3 (.slice A' (nx u).length c') = V5 := ⟨_, rfl⟩
      rw [hV5] at hsx4
      have hV53 : V5 3 = .slice A' (nx u).length c' := by rw [← hV5, put1_same]
      obtain ⟨X5, hX5⟩ : ∃ X5, put1 (put1 X 1 []) 3 (ic (nx u)) = X5 := ⟨_, rfl⟩
      rw [hX5] at hsx4
      have x50 : X5 0 = jc F := by rw [← hX5, put1_other _ _ (by decide), put1_other _ _ (by decide)]; exact hon.x0
      have x51 : X5 1 = [] := by rw [← hX5, put1_other _ _ (by decide), put1_same]
      have x52 : X5 2 = jc R := by rw [← hX5, put1_other _ _ (by decide), put1_other _ _ (by decide)]; exact hon.x2
      have x53 : X5 3 = ic (nx u) := by rw [← hX5, put1_same]
      have HW5 : Hid (w4.setCell ⟨p, 14, none⟩ (.slice A' (nx u).length c') = w5) := hw5
      have HS5 : Hid (Sx N p w5 V5 X5) := hsx4
      have HF5 : Hid (Sfr N p w0 w5) := hfr5
      clear hw5 hV5 hX5 hsx4 hfr4 hfr5 k58 d12 e12 c14 d14 HV1 HV3 HW3 HFR3 hw0 HN
      have HX : Hid (X5 0 = jc F ∧ X5 1 = [] ∧ X5 2 = jc R ∧ X5 3 = ic (nx u)) := ⟨x50, x51, x52, x53⟩
      have HV53 : Hid (V5 3 = .slice A' (nx u).length c') := hV53
      have HRES : Hid ((match nx u with | [] => none | t :: _ => if t = a then some P else if t ∈ P then none else srch nx a f' (P ++ [t])) = res) := hres
      have HFU : Hid (f = f' + 1) := hf'
      clear x50 x51 x52 x53 hV53 hon hres hf'
      rcases HNX.out u hun with hnil | ⟨t, ht, hnt⟩
      · rw [hnil] at HW5 HV53 HX HRES ⊢
        simp only [List.length_nil] at HW5 HV53 HX ⊢
        go_wp2_with fail
        rw [HW5.out]
        refine wp_loop_once ?_
        go_wp2
        go_roundw
        case rel => exact .inr ⟨HRES.out.symm, V5, X5, HS5.out, HX.out.2.1, HF5.out⟩
        case measure => rw [msr_off HS5.out HX.out.2.1, hmsr]; omega
      · rw [hnt] at HW5 HV53 HX HRES ⊢
        simp only [List.length_singleton] at HW5 HV53 HX ⊢
        have h53 : (X5 3)[0]? = some (.int .i64 (t : Int)) := by rw [HX.out.2.2.2]; rfl
        obtain ⟨g5, cap5, hv5, _, hgs5, hct, _⟩ := HS5.out.at (i := 3) (by decide) h53
        rw [HV53.out] at hv5
        obtain ⟨rfl, hl5, rfl⟩ : A' = some ⟨g5, 0, none⟩ ∧ 1 = (X5 3).length ∧ c' = cap5 := by simpa using hv5
        clear hv5 hl5 h53 HNX
        obtain ⟨m0, hm0⟩ : ∃ m0, msr nT p wr = m0 := ⟨_, rfl⟩
        rw [hm0] at hmsr
        have HM0 : Hid (msr nT p wr = m0) := hm0
        clear hm0
        go_wp2_with fail
        rw [HW5.out]
        clear d14' e14' HW5
        go_loopw [101] (fun i wq => (i = .int .i64 0 ∧ wq = w5) ∨ (i = .int .i64 1 ∧ ((∃ P f u V X F R, On N p a nT w0 wq nx res P f u V X F R ∧ X 1 = ic [u]) ∨ (res = none ∧ ∃ V X, Sx N p wq V X ∧ X 1 = [] ∧ Sfr N p w0 wq)) ∧ msr nT p wq < m0)) (fun i _ => 1 - (intOf i).toNat)
        case atStart => exact .inl ⟨rfl, rfl⟩
        case round =>
          rcases hrel with ⟨rfl, hw⟩ | ⟨rfl, hst, hm⟩
          · have hw := hw.symm
            subst hw
            have hS5 := HS5.out
            by_cases hta : t = a
            · subst hta
              have hon := HON.out
              have k76 := pathTo76 F P t w5 hS5 HX.out.1 hon.way.hd (fun i x y hx hy => ⟨hon.fp.ch i x y hx hy, fun e => by
                subst e
                have h1 := hon.way.hd
                have hnd := hon.way.nd
                have hi : i + 1 < P.length := by
                  rcases Nat.lt_or_ge (i + 1) P.length with h2 | h2
                  · exact h2
                  · rw [List.getElem?_eq_none h2] at hy; cases hy
                rw [List.getElem?_eq_getElem hi] at hy
                rw [List.getElem?_eq_getElem (by omega)] at h1
                have h3 : P[0]'(by omega) = P[i + 1] := by
                  have := Option.some.inj hy
                  have h4 := Option.some.inj h1
                  rw [this, h4]
                exact List.pairwise_iff_getElem.1 hnd 0 (i + 1) (by omega) hi (by omega) h3⟩) (fun x hx => by have := hon.way.lt x hx; omega) (by omega) (by have := hon.fp.len; omega) u hon.lst
              have hsz5 := hS5.size
              have hlow5 := hS5.low
              clear hon hS5
              go_wp2_with fail
              refine k76.mono ?_
              rintro e w6 ⟨g, cap, rfl, hown, hB⟩
              have HPP : Hid (PathPost N p w0 res (.returned (.slice (some ⟨g, 0, none⟩) P.length cap)) w6) := by
                refine ⟨HF5.out.trans (Sfr.of_below hB hsz5 (by omega)), ?_⟩
                have hr := HRES.out
                simp only [if_true] at hr
                rw [← hr]
                exact ⟨g, cap, rfl, own_low hown hsz5⟩
              clear k76 hown hB
              dsimp only
              go_wp2
              exact HRR.out _ _ HPP.out
            · have htai : ((t : Int) == (a : Int)) = false := by simpa using fun e : (t : Int) = (a : Int) => hta (by omega)
              have hta2 : ¬ ((t : Int) = (a : Int)) := by omega
              have hr := HRES.out
              simp only [if_neg hta] at hr
              by_cases htP : t ∈ P
              · rw [if_pos htP] at hr
                obtain ⟨z, hz1, hz2⟩ := HON.out.fp.mem HON.out.way htP
                have k75 := reach_no t u z w5 hS5 (by rw [HX.out.1, jc_at, hz1]; rfl) hz2 (by omega) (by rw [HX.out.1, jc_len]; have := HON.out.fp.len; omega)
                clear hS5
                go_wp2_with fail
                refine k75.mono ?_
                rintro e w6 ⟨rfl, rfl⟩
                dsimp only
                go_wp2
                go_roundw
                case rel => exact .inr ⟨rfl, .inr ⟨hr.symm, V5, X5, HS5.out, HX.out.2.1, HF5.out⟩, by rw [msr_off HS5.out HX.out.2.1, hmsr]; omega⟩
                case measure => simp [intOf]
              · rw [if_neg htP] at hr
                have hon := HON.out
                have k75 := reach_yes t u F R w5 hS5 HX.out.1 HX.out.2.2.1 (hon.fp.off t htP) (by omega) (by have := hon.fp.len; omega) (by rw [hon.rl]; omega)
                clear hS5 hon
                go_wp2_with fail
                refine k75.mono ?_
                rintro e w6 ⟨rfl, ⟨V6, hS6⟩, hF6⟩
                obtain ⟨X6, hX6⟩ : ∃ X6, put1 (put1 X5 0 (jc ((wide F t).set t (u : Int)))) 2 (jc (R ++ [(t : Int)])) = X6 := ⟨_, rfl⟩
                rw [hX6] at hS6
                have x60 : X6 0 = jc ((wide F t).set t (u : Int)) := by rw [← hX6, put1_other _ _ (by decide), put1_same]
                have x61 : X6 1 = [] := by rw [← hX6, put1_other _ _ (by decide), put1_other _ _ (by decide)]; exact HX.out.2.1
                have x62 : X6 2 = jc (R ++ [(t : Int)]) := by rw [← hX6, put1_same]
                obtain ⟨g6, cap6, w7, hrun, hT7⟩ := tn_app (i := 1) (by decide) hS6 t (by rw [x61]; simp)
                obtain ⟨A6, c6, hv6⟩ := hS6.form (i := 1) (by decide)
                have hput := sx_put hS6 (i := 1) (by decide) hT7
                have low7 := hT7.low hS6 (by decide) p hS6.low
                have c12 : w6.cell? ⟨p, 12, none⟩ = some (V6 1) := (hS6.pc 1 (by decide)).1
                have d12 : w7.cell? ⟨p, 12, none⟩ = some (V6 1) := by rw [World.cell?_of_block (w := w6) low7]; exact c12
                have e12 : w7.frozen? ⟨p, 12, none⟩ = false := by rw [World.frozen?_of_block (w := w6) low7]; exact (hS6.pc 1 (by decide)).2
                have hl6 : (X6 1).length = 0 := by rw [x61]; rfl
                rw [hv6] at c12 d12 hrun
                rw [hl6] at c12 d12 hrun hput
                have hsz6 := hS6.size
                have hps6 : p < w6.heap.size := by have := hS6.low; omega
                have HST : Hid (∃ V, On N p a nT w0 (w7.setCell ⟨p, 12, none⟩ (.slice (some ⟨g6, 0, none⟩) (0 + 1) cap6)) nx res (P ++ [t]) f' t V (put1 X6 1 (X6 1 ++ [.int .i64 (t : Int)])) ((wide F t).set t (u : Int)) (R ++ [(t : Int)])) := by
                  have hon := HON.out
                  refine ⟨_, hr, by have := hon.fuel; have := HFU.out; simp; omega, hon.way.step htP ht, hon.fp.step hon.way htP ht hon.lst, by simp, hput.1, ?_, ?_, by simp [hon.rl], (HF5.out.trans hF6).trans hput.2⟩
                  · rw [put1_other _ _ (by decide)]; exact x60
                  · rw [put1_other _ _ (by decide)]; exact x62
                have HRUN : Hid ((Builtin.append_ #[25, 25] 25 #[.slice A6 0 c6, .slice (some ⟨w6.heap.size, 0, none⟩) 1 1]).run Try.prog (w6.alloc (.cells #[.int .i64 (t : Int)] 3)) = .ok (.slice (some ⟨g6, 0, none⟩) (0 + 1) cap6) w7) := hrun
                have HX61 : Hid (X6 1 = []) := x61
                clear hX6 hT7 hput low7 hv6 k75 hF6 hS6 x60 x61 x62 hrun hl6
                dsimp only
                go_wp2_with (at_builtin; refine wpList_append_by rfl (.tmp 120) (.tmp 122) 25 25 rfl rfl rfl HRUN.out ?_)
                go_roundw
                case rel =>
                  obtain ⟨V7, h7⟩ := HST.out
                  have h71 : put1 X6 1 (X6 1 ++ [.int .i64 (t : Int)]) 1 = ic [t] := by rw [put1_same, HX61.out]; rfl
                  refine .inr ⟨rfl, .inl ⟨_, _, _, _, _, _, _, h7, h71⟩, ?_⟩
                  have h8 := h7.rl
                  have h9 : msr nT p (w7.setCell ⟨p, 12, none⟩ (.slice (some ⟨g6, 0, none⟩) (0 + 1) cap6)) = nT + 5 - (P ++ [t]).length := by rw [msr_on h7.sx h71, h7.x2, jc_len, h8]
                  show msr nT p (w7.setCell ⟨p, 12, none⟩ (.slice (some ⟨g6, 0, none⟩) (0 + 1) cap6)) < m0
                  rw [h9, hmsr]
                  simp
                  omega
                case measure => simp [intOf]
          · have HST : Hid ((∃ P f u V X F R, On N p a nT w0 wr nx res P f u V X F R ∧ X 1 = ic [u]) ∨ (res = none ∧ ∃ V X, Sx N p wr V X ∧ X 1 = [] ∧ Sfr N p w0 wr)) := hst
            have HM : Hid (msr nT p wr < m0) := hm
            clear hst hm hct
            go_wp2
            go_roundw
            case rel => exact HST.out
            case measure => rw [HM0.out]; exact HM.out
    · obtain ⟨A, c, hv⟩ := h.form (i := 1) (by decide)
      have c12 : wr.cell? ⟨p, 12, none⟩ = some (V 1) := (h.pc 1 (by decide)).1
      rw [hv, h1] at c12
      have HF : Hid (Sfr N p w0 wr) := hfr
      clear h hv h1 hfr
      go_wp2
      exact HRR.out _ _ ⟨HF.out, by rw [hres]; rfl⟩
end Go.Proofs.Qxb6616109a
