import Derived.Test.Qxb6616109aDlC
import Derived.RangeFuncFrom
namespace Go.Proofs.Qxb6616109a
open Go.RowKit Go.Deep Go.Joins Go.Shelf
attribute [local go_sem] Oper.semAt_some

/-- What a request in the boxes Br, Bl, Bt waits for, E; every block that is read behind a round is safe. -/
def Asks (W : World) (n₀ : Nat) (S : Nat → Prop) (Br Bl Bt p gHo gQ nG s : Nat) (E : List Nat) : Prop :=
  (∃ Ag cg, W.cell? ⟨Br, 0, none⟩ = some (.slice Ag 0 cg) ∧ E = []) ∨
  (∃ bg og cg g m A l cp ho, g < nG ∧ W.cell? ⟨Br, 0, none⟩ = some (.slice (some ⟨bg, og, none⟩) 1 cg) ∧ W.cell? ⟨bg, og, none⟩ = some (.int .i64 (g : Nat)) ∧
    Look W Br Bl Bt p gHo gQ nG g s (some ⟨bg, og, none⟩) cg m A l cp ∧ HRow W A l ho ∧ (∀ x, x = Br ∨ x = Bl ∨ x = Bt ∨ x = p ∨ x = gHo ∨ x = gQ → x < n₀ ∧ ¬ S x) ∧ (∀ b, A = some ⟨b, 0, none⟩ → ho ≠ none → b < n₀ ∧ ¬ S b) ∧ E = edge ho s)

theorem it62 (n₀ : Nat) (S : Nat → Prop) (Br Bl Bt p gHo gQ nG s : Nat) (E : List Nat) (w0 : World) (hnG : nG ≤ 65536) (hn₀ : n₀ ≤ w0.heap.size) (hA : Asks w0 n₀ S Br Bl Bt p gHo gQ nG s E) :
    SeqStopsK Fence.wide 4 Try.prog 62 #[.pointer (some ⟨Br, 0, none⟩), .pointer (some ⟨Bl, 0, none⟩), .pointer (some ⟨Bt, 0, none⟩)] (fun x : Nat => #[.int .i64 (x : Int)]) (KpS n₀ S) (fun xs => xs = E) (fun pre => pre = E ∧ E ≠ []) 2 w0 := by
  intro l J Jx W hW hJ hJx hY h0
  have kc : ∀ {a : Addr} {v : Value}, w0.cell? a = some v → W.cell? a = some v := fun h => (hW.cell (World.block_lt_of_cell? w0 _ h)).trans h
  rcases hA with ⟨Ag, cg, h1, rfl⟩ | ⟨bg, og, cg, g, m, A, lr, cp, ho, hg, h1, h2, hL, hr, hs, hsb, rfl⟩
  · exact it62_none l Br Bl Bt Ag cg W (kc h1) _ ⟨⟨_, rfl⟩, .inl ⟨[], rfl, h0⟩⟩
  · have hL2 := hL.below hW
    rcases hr with ⟨rfl, rfl⟩ | ⟨b, t, rfl, rfl, rfl, h4, h5⟩
    · exact it62_free l Br Bl Bt p gHo gQ nG g s bg og cg m A cp W hg hnG (kc h1) (kc h2) hL2 _ (fun W' hB => ⟨⟨_, rfl⟩, .inl ⟨[], rfl, abide_below hJ h0 hB⟩⟩)
    · by_cases hts : t = s
      · subst hts
        exact it62_own l Br Bl Bt p gHo gQ nG g t bg og cg b cp m W hg hnG (kc h1) (kc h2) hL2 (kc h4) (kc h5) _ (fun W' hB => ⟨⟨_, rfl⟩, .inl ⟨[], by simp [edge], abide_below hJ h0 hB⟩⟩)
      · have e : edge (some t) s = [t] := by simp [edge, hts]
        refine it62_other l Br Bl Bt p gHo gQ nG g s t bg og cg b cp n₀ S m W hts hg hnG (Nat.le_trans hn₀ hW.size) (kc h1) (kc h2) hL2 (kc h4) (kc h5) hs (hsb b rfl (by simp)) (J [t]) (Jx [t]) ?_ _ ?_ ?_
        · exact hY [] t (boxed W t) (abide_below hJ h0 ((Below.refl _ _).alloc (Nat.le_refl _) _)) (by simp)
        · intro W1 W' hG hB
          exact ⟨⟨_, rfl⟩, .inl ⟨[t], e.symm, abide_below hJ hG hB⟩⟩
        · intro W' hG
          exact ⟨⟨_, rfl⟩, .inr ⟨[t], ⟨e.symm, by rw [e]; simp⟩, hG⟩⟩

theorem kpS_t {n₀ : Nat} {S : Nat → Prop} {A B C : World} (h : KpS n₀ S A B) (k : KpS n₀ S B C) : KpS n₀ S A C := fun b h1 h2 => (k b h1 h2).trans (h b h1 h2)
theorem kpS_b {n₀ : Nat} {S : Nat → Prop} {w : World} (hn : n₀ ≤ w.heap.size) (W : World) (l : Nat) (o o' : Obj) (hl : w.heap.size ≤ l) (_h : W.heap[l]? = some o) (_ : o.isCells = false) (_ : o.isWalk = false) : KpS n₀ S W (W.putObj l o') :=
  fun _b hb _ => World.putObj_heap_other (by omega)

theorem waitsFor52 (p s : Nat) (A : Option Addr) (l c : Nat) (m : Int) (w : World) :
    Calls Try.prog 52 #[.pointer (some ⟨p, 0, none⟩), .int .i64 s, .agg #[.slice A l c, .int .u8 m]] w fun e w' => e = .returned (.func (.func 62) #[] #[.pointer (some ⟨w.heap.size + 2, 0, none⟩), .pointer (some ⟨w.heap.size, 0, none⟩), .pointer (some ⟨w.heap.size + 1, 0, none⟩)]) ∧
      w' = ((w.alloc (.cells #[.pointer (some ⟨p, 0, none⟩)] 22)).alloc (.cells #[.int .i64 s] 3)).alloc (.cells #[.slice A l c, .int .u8 m] 54) := by
  go_enter Try.func52, Try.ntmps52
  go_wp2
  go_ret
  exact ⟨rfl, rfl⟩
end Go.Proofs.Qxb6616109a
