import Derived.Test.Qxb6616109aDlI
import Derived.StillTailTactics
namespace Go.Proofs.Qxb6616109a
open Go.RowKit Go.Deep Go.Joins
set_option linter.unusedSimpArgs false
set_option linter.unusedVariables false

variable {w w1 : World} {B : Bk} {N nT nG : Nat} {lim : Nat → Nat} {V : Nat → Nat → Value} {X : Nat → Nat → List Value} {md : Nat → Int}

/-- Row (2, t) cut to nothing. -/
theorem cut_key {t : Nat} {r : List Nat} {A : Option Addr} {c d : Nat} (h : Lk w B N nT nG lim V X md) (hl : lim 2 = nT) (ht : t < nT) (hv : V 2 t = .slice A r.length c) (hr : w.ownsRow N 3 1 (.slice A r.length c) r.length (ic r)) :
    (∃ V', Lk ((w.drewN d).setCell ⟨B.rf, t * 2, none⟩ (.slice A 0 c)) B N nT nG lim V' (put2 X 2 t (ic [])) md) ∧ Fr B N w ((w.drewN d).setCell ⟨B.rf, t * 2, none⟩ (.slice A 0 c)) := by
  have hT : Turn w (w.drewN d) N V 2 t (.slice A 0 c) (ic []) := by
    refine ⟨rfl, rfl, rfl, Nat.le_refl _, fun _ _ _ => rfl, ?_, ?_⟩
    · have h1 := ownsRow_cut hr
      have h2 : w.ownsRow N (ety 2) (esz 2) (.slice A 0 c) ((ic []).length / esz 2) (ic []) := by simpa [ety, esz, ic] using h1
      exact h2
    · intro b hb
      left
      rw [hv]
      cases A with
      | none => simp [Value.ownBlock] at hb
      | some a => simpa [Value.ownBlock] using hb
  have k := lk_put2 h ht hl hT
  exact ⟨⟨_, k.1⟩, k.2⟩

set_option maxHeartbeats 2000000 in
set_option maxRecDepth 100000 in
theorem give33 (t g bg og c0 : Nat) (l r : List Nat) (w : World) (h : Lk w B N nT nG lim V X md) (hl0 : lim 0 = nG) (hl1 : lim 1 = nT) (hl2 : lim 2 = nT) (ht : t < nT) (hg : g < nG) (hx0 : X 0 g = hc none) (hx1 : X 1 t = ic l) (hx2 : X 2 t = ic r) (hll : l.length ≤ 65536) (hnT : nT ≤ 4096) (hnG : nG ≤ 65536)
    (hbg : w.cell? ⟨bg, og, none⟩ = some (.int .i64 g)) :
    Calls Try.prog 33 #[.pointer (some ⟨B.p, 0, none⟩), .int .i64 t, .int .u8 2, .slice (some ⟨bg, og, none⟩) 1 c0] w fun e w' => e = .returned (.tuple #[]) ∧ (∃ V', Lk w' B N nT nG lim V' (put2 (put2 (put2 X 0 g (hc (some t))) 1 t (ic (l ++ [g]))) 2 t (ic [])) md) ∧ Fr B N w w' := by
  have k := grant53 t g l w h hl0 hl1 ht hg hx0 hx1 hll hnT hnG
  have HX2 : Hid (X 2 t = ic r) := hx2
  have HL2 : Hid (lim 2 = nT) := hl2
  clear h hl0 hl1 hl2 hx0 hx1 hx2
  go_enter Try.func33, Try.ntmps33
  go_wp2
  go_loopw [12] (fun i wr => (i = .int .i64 0 ∧ wr = w) ∨ (i = .int .i64 1 ∧ (∃ V', Lk wr B N nT nG lim V' (put2 (put2 X 0 g (hc (some t))) 1 t (ic (l ++ [g]))) md) ∧ Fr B N w wr)) (fun i _ => 1 - (intOf i).toNat)
  case atStart => exact .inl ⟨rfl, rfl⟩
  case round =>
    rcases hrel with ⟨rfl, hw⟩ | ⟨rfl, hV, hF⟩
    · have hw := hw.symm
      subst hw
      go_wp2_with (go_at_call 53; refine k.mono ?_; rintro e w' ⟨rfl, hV, hF⟩)
      go_roundw
      case rel => exact .inr ⟨rfl, hV, hF⟩
      case measure => simp [intOf]
    · clear k hbg
      obtain ⟨V', hk⟩ := hV
      obtain ⟨A, c, hv, hr⟩ := hk.lrow (k := 2) (i := t) (l := r) (by decide) (by rw [HL2.out]; exact ht) (by rw [put2_other _ _ (by omega), put2_other _ _ (by omega)]; exact HX2.out)
      have c3 := hk.still.c3
      have hc : wr.cell? ⟨B.rf, t * 2, none⟩ = some (.slice A r.length c) := by
        rw [hk.rfs.cell (by omega)]
        simp [rfAt, hv]
      have hf : wr.frozen? ⟨B.rf, t * 2, none⟩ = false := hk.rfs.frozen (t * 2)
      have key := cut_key (d := 1) hk HL2.out ht hv hr
      have KEY : Hid ((∃ V'', Lk ((wr.drewN 1).setCell ⟨B.rf, t * 2, none⟩ (.slice A 0 c)) B N nT nG lim V'' (put2 (put2 (put2 X 0 g (Go.Proofs.Qxb6616109a.hc (some t))) 1 t (ic (l ++ [g]))) 2 t (ic [])) md) ∧ Fr B N wr ((wr.drewN 1).setCell ⟨B.rf, t * 2, none⟩ (.slice A 0 c))) := key
      have HF : Hid (Fr B N w wr) := hF
      clear key hk hr hF hv
      go_wp2_with fail
      go_still_tail 16, (by kernel_rfl)
      go_wp2
      go_end0
      exact ⟨rfl, KEY.out.1, HF.out.trans KEY.out.2⟩
end Go.Proofs.Qxb6616109a
