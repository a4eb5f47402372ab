import Derived.Test.Qxb6616109aClone
namespace Go.Proofs.Qxb6616109a
open Go.RowKit Go.Deep Go.Joins

/-- A row of integers that came in. -/
structure RowIn (w : World) (A : Option Addr) (n c : Nat) (zs : List Int) : Prop where
  len : zs.length = n
  nil : A = none → n = 0 ∧ c = 0
  cells : Cells w A n (fun i => .int .i64 (zs.getD i 0))

theorem RowIn.below {w w' : World} {B : Nat} {A : Option Addr} {n c : Nat} {zs : List Int} (h : RowIn w A n c zs) (hb : Below B w w') (hB : w.heap.size ≤ B) : RowIn w' A n c zs :=
  ⟨h.len, h.nil, h.cells.below hb hB⟩

def putAt (f : Nat → Value) (k : Nat) (v : Value) : Nat → Value := fun r => if r = k then v else f r

/-- One more row is laid. -/
theorem jag_step {w w1 : World} {lo g n k : Nat} {vs : Nat → Value} {zs : Nat → List Int} {v : Value} (hj : Jag w lo g n k vs zs) (hk : k < n) (hlo : g < lo) (hs : lo ≤ w.heap.size)
    (hv : w1.ownsRow w.heap.size 3 1 v (zs k).length ((zs k).map (Value.int .i64))) (hg : w.grownBy w1 none) :
    Jag (w1.setCell ⟨g, k, none⟩ v) lo g n (k + 1) (putAt vs k v) zs := by
  have hglt := hj.outer.lt
  have hold : ∀ r b, r < k → (vs r).ownBlock = some b → b < w.heap.size ∧ lo ≤ b := fun r b hr hb => ⟨((hj.row r hr).lt b hb).2, ((hj.row r hr).lt b hb).1⟩
  have hnew : ∀ b, v.ownBlock = some b → w.heap.size ≤ b := fun b hb => (hv.lt b hb).1
  refine ⟨?_, ?_, ?_⟩
  · have h1 : w1.rowIs g 25 n (fun r => if r < k then vs r else .slice none 0 0) := hj.outer.of_block (hg.block g hglt (by simp))
    refine (h1.set k v).congr fun i _ => ?_
    unfold putAt
    by_cases e : i = k
    · subst e; simp
    · by_cases e2 : i < k
      · simp [e, e2, show i < k + 1 by omega]
      · simp [e, e2, show ¬ i < k + 1 by omega]
  · intro r hr
    by_cases e : r = k
    · subst e
      have : putAt vs r v r = v := by simp [putAt]
      rw [this]
      refine ownsRow_setCell_other (ownsRow_le hv hs) ?_ _
      intro hb
      have := hnew _ hb
      simp at this
      omega
    · have hp : putAt vs k v r = vs r := by simp [putAt, e]
      rw [hp]
      refine ownsRow_setCell_other ((hj.row r (by omega)).kept hg ?_) ?_ _
      · cases hb : (vs r).ownBlock <;> simp
      · intro hb
        have := (hold r _ (by omega) hb).2
        simp at this
        omega
  · intro r s b hr hs' hrb hsb
    unfold putAt at hrb hsb
    by_cases e1 : r = k
    · by_cases e2 : s = k
      · omega
      · rw [if_pos e1] at hrb; rw [if_neg e2] at hsb
        have h1 := hnew b hrb
        have h2 := (hold s b (by omega) hsb).1
        omega
    · by_cases e2 : s = k
      · rw [if_neg e1] at hrb; rw [if_pos e2] at hsb
        have h1 := hnew b hsb
        have h2 := (hold r b (by omega) hrb).1
        omega
      · rw [if_neg e1] at hrb; rw [if_neg e2] at hsb
        exact hj.ap r s b (by omega) (by omega) hrb hsb

theorem jag_start {w : World} {lo n : Nat} {vs : Nat → Value} {zs : Nat → List Int} : Jag (w.alloc (.cells (madeCells #[.slice none 0 0] n) 25)) lo w.heap.size n 0 vs zs :=
  ⟨(World.rowIs_made w _ n 25).congr fun i _ => by simp, fun r hr => by omega, fun r s b hr => by omega⟩

theorem jag_below {w wr w1 : World} {B : Nat} {v : Value} {k : Nat} (h : Below B w wr) (hB : B ≤ wr.heap.size) (hg : wr.grownBy w1 none) : Below B w (w1.setCell ⟨B, k, none⟩ v) :=
  (h.grown hg hB (by simp)).setCell (Nat.le_refl _) v

set_option maxHeartbeats 400000 in
theorem clone2_some (ad : Addr) (n cap : Nat) (AA : Nat → Option Addr) (L CC : Nat → Nat) (zs : Nat → List Int) (w : World) (hn : n ≤ 1048576) (hm : ∀ r, r < n → L r ≤ 1048576)
    (hc : Cells w (some ad) n (fun r => .slice (AA r) (L r) (CC r))) (hin : ∀ r, r < n → RowIn w (AA r) (L r) (CC r) (zs r)) :
    Calls Try.prog 13 #[.slice (some ad) n cap] w fun e w' => ∃ vs, e = .returned (.slice (some ⟨w.heap.size, 0, none⟩) n n) ∧
      Jag w' (w.heap.size + 1) w.heap.size n n vs zs ∧ Below w.heap.size w w' := by
  have hq := fun (w : World) (a : Option Addr) (n c n' c' : Nat) => Lib.run_eql_slice_nil (P := Try.prog) w 32 25 a n c n' c' Try.underlying32
  have hmk := run_make_row' (P := Try.prog) 32 25 (.slice none 0 0) 24 Try.underlying32 info25 rfl .i64 .i64 n (by omega) (by omega)
  go_enter Try.func13, Try.ntmps13
  go_wp2
  go_loopw [4] (fun i wr => ∃ (k : Nat) (vs : Nat → Value), k ≤ n ∧ i = .int .i64 k ∧ Jag wr (w.heap.size + 1) w.heap.size n k vs zs ∧ Below w.heap.size w wr) (fun i _ => n - (intOf i).toNat)
  case atStart => exact ⟨0, fun _ => .slice none 0 0, Nat.zero_le _, rfl, jag_start, (Below.refl _ _).alloc (Nat.le_refl _) _⟩
  case round =>
    obtain ⟨k, vs, hk, rfl, hj, hbl⟩ := hrel
    have hsz : w.heap.size < wr.heap.size := hj.outer.lt
    by_cases hlt : k < n
    · obtain ⟨b, off, had, hb, hcc⟩ := hc.lit (by omega)
      simp only [Option.some.injEq] at had
      subst had
      have hck : wr.cell? ⟨b, off + k, none⟩ = some (.slice (AA k) (L k) (CC k)) := (hbl.cell (by exact hb)).trans (hcc k hlt)
      have hri := (hin k hlt).below hbl (Nat.le_refl _)
      have hmk' := hm k hlt
      have HJ : Hid (Jag wr (w.heap.size + 1) w.heap.size n k vs zs) := hj
      have HB : Hid (Below w.heap.size w wr) := hbl
      have HL : Hid ((zs k).length = L k) := hri.len
      clear hc hcc hin hm hj hbl
      go_wp2_with fail
      refine (clone_own (AA k) (L k) (CC k) (zs k) _ hri.nil hri.len (by omega) hri.cells).mono ?_
      rintro e w1 ⟨A', c', rfl, hown, hg⟩
      clear hck hri
      have hcell : w1.cell? ⟨w.heap.size, k, none⟩ = some (.slice none 0 0) := by
        rw [World.cell?_of_block (w := wr) (hg.block _ (by exact hsz) (by simp))]
        simpa using HJ.out.outer.cell hlt
      have hfr : w1.frozen? ⟨w.heap.size, k, none⟩ = false := by
        rw [World.frozen?_of_block (w := wr) (hg.block _ (by exact hsz) (by simp))]
        exact HJ.out.outer.frozen k
      have R1 : Hid (Jag (w1.setCell ⟨w.heap.size, k, none⟩ (.slice A' (L k) c')) (w.heap.size + 1) w.heap.size n (k + 1) (putAt vs k (.slice A' (L k) c')) zs) :=
        jag_step HJ.out hlt (by omega) (by omega) (by rw [HL.out]; exact hown) hg
      have R2 : Hid (Below w.heap.size w (w1.setCell ⟨w.heap.size, k, none⟩ (.slice A' (L k) c'))) := jag_below HB.out (by omega) hg
      clear hown hg
      go_wp2
      go_roundw
      case rel => exact ⟨k + 1, _, by omega, by go_num, R1.out, R2.out⟩
      case measure => simp [intOf]; omega
    · obtain rfl : k = n := by omega
      clear hc hin hm
      go_wp2
      go_ret
      exact ⟨vs, rfl, hj, hbl⟩
end Go.Proofs.Qxb6616109a
