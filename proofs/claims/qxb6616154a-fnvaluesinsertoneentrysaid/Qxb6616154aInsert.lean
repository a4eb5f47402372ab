import Derived.Test.Qxb6616154aIns3
namespace Go.Proofs.Qxb6616154a
open Go.RowKit Go.Deep Go.Joins

set_option maxRecDepth 100000 in
theorem cut6 : Try.f5.body.getD .skip = cutAt 6 (Try.f5.body.getD .skip) (dropAt 6 (Try.f5.body.getD .skip)) := by kernel_rfl
set_option maxRecDepth 100000 in
theorem cut12 : dropAt 6 (Try.f5.body.getD .skip) = cutAt 6 (dropAt 6 (Try.f5.body.getD .skip)) (dropAt 12 (Try.f5.body.getD .skip)) := by kernel_rfl
set_option maxRecDepth 100000 in
theorem cut16 : dropAt 12 (Try.f5.body.getD .skip) = cutAt 4 (dropAt 12 (Try.f5.body.getD .skip)) (dropAt 16 (Try.f5.body.getD .skip)) := by kernel_rfl

set_option maxRecDepth 100000 in
set_option maxHeartbeats 4000000 in
theorem walkI (A0 A1 A2 : Option Addr) (n0 c0 n1 c1 n2 c2 : Nat) (at_ nl : Int) (sn sv s : ByteArray) (nm vl : Nat → ByteArray) (ln : Nat → Int) (w : World)
    (h0 : n0 ≤ maxLen) (h1 : n1 ≤ maxLen) (h2 : n2 ≤ maxLen) (hsn : sn.size ≤ maxLen) (hsv : sv.size ≤ maxLen) (hs : s.size ≤ maxLen) (hnm : ∀ i, i < n0 → (nm i).size ≤ maxLen) (hvl : ∀ i, i < n2 → (vl i).size ≤ maxLen) (hat : In64 at_)
    (hc0 : Cells w A0 n0 (fun i => .string (nm i))) (hc1 : Cells w A1 n1 (fun i => .int .i64 (ln i))) (hc2 : Cells w A2 n2 (fun i => .string (vl i))) :
    Calls Try.prog 5 #[.slice A0 n0 c0, .slice A1 n1 c1, .slice A2 n2 c2, .int .i64 at_, .string sn, .int .i64 nl, .string sv, .string s] w fun e w' => e = .returned (.bool true) ∧ Below w.heap.size w w' := by
  go_enter Try.func5, Try.ntmps5
  show Code.wp Try.prog (Try.f5.body.getD .skip) _ _ _
  rw [cut6]
  refine phaseI0 _ A0 A1 A2 n0 c0 n1 c1 n2 c2 at_ nl sn sv s nm vl ln w h0 h1 h2 hsn hsv hs hnm hvl hat hc0 hc1 hc2 ?_
  intro an
  intros
  rename_i ea m0 e1 e2 han
  clear ea h1 h2 hvl
  subst e1
  subst e2
  rw [cut12]
  refine phaseI1 _ A0 A1 A2 _ c0 c1 c2 an nl sn sv s nm vl ln w m0 han hc0 hc1 hc2 ?_
  intro w2 g1 ga gw L
  intros
  rename_i hL hatt hB
  rw [cut16]
  refine phaseI2 _ A0 _ c0 an g1 ga gw nl sn sv s nm w w2 L m0 han hL hatt hB hc0 ?_
  intro w4 B1 B2 m1 d1 m2 d2 mb
  intros
  rename_i hm1 hm2 hmb hb1 hb2 hF
  exact phaseI3 w w4 B1 B2 m1 d1 m2 d2 mb ga an nl sn sv s L hm1 hm2 hmb hb1 hb2 hF
end Go.Proofs.Qxb6616154a
