import Derived.Test.Qxb6616151aAppStr
namespace Go.Proofs.Qxb6616151a
open Go.RowKit Go.Deep Go.Joins

/-- A number in base 128, low group first: at most f groups with the high bit set, then the last. -/
def uvF : Nat → Nat → List Int
  | 0, x => [(x : Int)]
  | f + 1, x => if x < 128 then [(x : Int)] else ((x % 128 + 128 : Nat) : Int) :: uvF f (x / 128)

theorem uvF_small (f x : Nat) (h : x < 128) : uvF f x = [(x : Int)] := by
  cases f with
  | zero => rfl
  | succ f => simp [uvF, h]
theorem uvF_big (f x : Nat) (h : ¬ x < 128) : uvF (f + 1) x = ((x % 128 + 128 : Nat) : Int) :: uvF f (x / 128) := by simp [uvF, h]
theorem uvF_len (f x : Nat) : 0 < (uvF f x).length ∧ (uvF f x).length ≤ f + 1 := by
  induction f generalizing x with
  | zero => simp [uvF]
  | succ f ih =>
    simp only [uvF]
    split
    · simp
    · have := ih (x / 128); simp; omega

theorem or_fin : ∀ r : Fin 256, bits .or .u8 ((r.val : Nat) : Int) 128 = ((r.val % 128 + 128 : Nat) : Int) := by decide +kernel
theorem or_128 (y : Nat) : bits .or .u8 ((y : Int) % 256) 128 = ((y % 128 + 128 : Nat) : Int) := by
  have h := or_fin ⟨y % 256, Nat.mod_lt _ (by decide)⟩
  have e : ((y % 256 : Nat) : Int) = (y : Int) % 256 := by omega
  simp only at h
  rw [e] at h
  rw [h]
  omega

/-- What a round, and the end, of AppendUvarint leave. -/
theorem owns_snoc {w w' : World} {lo g cap : Nat} {v : Value} {l : List Int} {u : Int} {o : Obj}
    (h : w'.ownsRow lo 5 1 (.slice (some ⟨g, 0, none⟩) (l.length + 1) cap) (l.length + 1) (u8s l ++ [.int .u8 u])) (hg : Grew (w.alloc o) w' v (.slice (some ⟨g, 0, none⟩) (l.length + 1) cap)) :
    Owns w' lo (.slice (some ⟨g, 0, none⟩) (l.length + 1) cap) (l ++ [u]) ∧ Grew w w' v (.slice (some ⟨g, 0, none⟩) (l.length + 1) cap) := by
  refine ⟨?_, hg.alloc⟩
  unfold Owns
  rw [u8s_append, List.length_append]
  exact h

set_option maxRecDepth 10000 in
set_option maxHeartbeats 1000000 in
theorem uv13 (lo : Nat) (v : Value) (l : List Int) (x : Nat) (w : World) (hx : x < 2097152) (hown : Owns w lo v l) (hl : l.length ≤ 4194304) (hlo : lo ≤ w.heap.size) :
    Calls Try.prog 13 #[v, .int .u64 x] w fun e w' => ∃ g cap, e = .returned (.slice (some ⟨g, 0, none⟩) (l ++ uvF 2 x).length cap) ∧ Owns w' lo (.slice (some ⟨g, 0, none⟩) (l ++ uvF 2 x).length cap) (l ++ uvF 2 x) ∧ Grew w w' v (.slice (some ⟨g, 0, none⟩) (l ++ uvF 2 x).length cap) := by
  obtain ⟨i5, hi5, hz0, hz1, hz2⟩ := info_parts info5
  have HO : Hid (Owns w lo v l) := hown
  clear hown
  go_enter Try.func13, Try.ntmps13
  go_wp2
  go_loopw [0, 1] (fun b y wr => ∃ (f q : Nat) (l' : List Int), y = .int .u64 q ∧ f ≤ 2 ∧ q < 128 ^ (f + 1) ∧ l'.length + f = l.length + 2 ∧ Hid (l' ++ uvF f q = l ++ uvF 2 x) ∧ Hid (Owns wr lo b l') ∧ Hid (Grew w wr v b)) (fun _ y _ => (intOf y).toNat)
  case atStart => exact ⟨2, x, l, rfl, Nat.le_refl _, hx, by omega, rfl, HO.out, ⟨⟨rfl, rfl, rfl, Nat.le_refl _, fun _ _ _ => rfl⟩, fun b hb => Or.inl hb⟩⟩
  case round =>
    obtain ⟨f, q, l', rfl, hf, hq, hlen, HE, HW, HG⟩ := hrel
    have hq2 : q < 2097152 := by
      have : (128 : Nat) ^ (f + 1) ≤ 128 ^ 3 := Nat.pow_le_pow_right (by decide) (by omega)
      omega
    have hsz : lo ≤ wr.heap.size := Nat.le_trans hlo HG.out.grow.size
    have hor := or_128 q
    have HQ : Hid (q < 128 ^ (f + 1)) := hq
    clear hq HO
    by_cases hs : q < 128
    · go_wp2_with (at_builtin; refine wpList_append1 _ rfl (.tmp 15) (.tmp 18) 22 rfl lo 5 i5 (.int .u8 0) 1 Try.underlying22 hi5 hz0 hz1 hz2 rfl u0 l'.length (u8s l') rfl (HW.out.alloc _) ⟨wr.heap.size, 0, none⟩ 1 (.int .u8 q) rfl (by simp) rfl (by unfold maxLen; omega) (by omega) (by simp; omega) ?_)
      intro g cap w1 h1 h2
      obtain ⟨k1, k2⟩ := owns_snoc h1 h2
      have e : l' ++ [(q : Int)] = l ++ uvF 2 x := by rw [← HE.out, uvF_small f q hs]
      have e2 : l'.length + 1 = (l ++ uvF 2 x).length := by rw [← e]; simp
      rw [e, e2] at k1
      rw [e2] at k2 ⊢
      have K1 : Hid _ := k1
      have K2 : Hid _ := HG.out.trans k2
      clear h1 h2 k1 k2 e e2 HE HW HG
      go_wp2
      go_ret
      exact ⟨g, cap, rfl, K1.out, K2.out⟩
    · go_wp2_with (at_builtin; refine wpList_append1 _ rfl (.tmp 7) (.tmp 11) 22 rfl lo 5 i5 (.int .u8 0) 1 Try.underlying22 hi5 hz0 hz1 hz2 rfl u0 l'.length (u8s l') rfl (HW.out.alloc _) ⟨wr.heap.size, 0, none⟩ 1 (.int .u8 ((q % 128 + 128 : Nat) : Int)) rfl (by simp) rfl (by unfold maxLen; omega) (by omega) (by simp; omega) ?_)
      intro g cap w1 h1 h2
      obtain ⟨k1, k2⟩ := owns_snoc h1 h2
      have K1 : Hid _ := k1
      have K2 : Hid _ := HG.out.trans k2
      clear h1 h2 k1 k2 hor
      go_wp2
      go_roundw
      case rel =>
        have hf1 : f ≠ 0 := fun h => by subst h; have := HQ.out; omega
        obtain ⟨f', rfl⟩ : ∃ f', f = f' + 1 := ⟨f - 1, by omega⟩
        refine ⟨f', q / 128, l' ++ [((q : Int) % 128 + 128)], by go_num, by omega, ?_, by simp; omega, ?_, K1.out, K2.out⟩
        · have := HQ.out
          rw [Nat.pow_succ] at this
          exact Nat.div_lt_of_lt_mul (by omega)
        · show l' ++ [((q : Int) % 128 + 128)] ++ uvF f' (q / 128) = l ++ uvF 2 x
          rw [← HE.out, uvF_big f' q hs, List.append_assoc]
          congr 1
      case measure => simp [intOf]; omega
end Go.Proofs.Qxb6616151a
