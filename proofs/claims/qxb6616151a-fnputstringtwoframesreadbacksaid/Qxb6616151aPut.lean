import Derived.Test.Qxb6616151aUv
namespace Go.Proofs.Qxb6616151a
open Go.RowKit Go.Deep Go.Joins

/-- The frame of a string: its length in base 128, then its bytes. -/
def frm (s : ByteArray) : List Int := uvF 2 s.size ++ bys s
theorem frm_len (s : ByteArray) : s.size < (frm s).length ∧ (frm s).length ≤ s.size + 3 := by
  have := uvF_len 2 s.size
  unfold frm; rw [List.length_append, bys_length]; omega

theorem put_own {w' : World} {lo g cap n : Nat} {l : List Int} {s : ByteArray} (hn : n = (l ++ uvF 2 s.size).length)
    (h : w'.ownsRow lo 5 1 (.slice (some ⟨g, 0, none⟩) (n + s.size) cap) (n + s.size) (u8s (l ++ uvF 2 s.size) ++ byteCells s)) :
    n + s.size = (l ++ frm s).length ∧ Owns w' lo (.slice (some ⟨g, 0, none⟩) (n + s.size) cap) (l ++ frm s) := by
  have e : n + s.size = (l ++ frm s).length := by
    subst hn; unfold frm; simp only [List.length_append, bys_length]; omega
  refine ⟨e, ?_⟩
  unfold Owns
  rw [← e]
  unfold frm
  rw [← List.append_assoc, u8s_append, ← byteCells_bys]
  exact h

set_option maxRecDepth 10000 in
set_option maxHeartbeats 1000000 in
theorem put12 (lo : Nat) (v : Value) (l : List Int) (s : ByteArray) (w : World) (hs : s.size ≤ 1048576) (hown : Owns w lo v l) (hl : l.length ≤ 4194304) (hlo : lo ≤ w.heap.size) :
    Calls Try.prog 12 #[v, .string s] w fun e w' => ∃ g cap, e = .returned (.slice (some ⟨g, 0, none⟩) (l ++ frm s).length cap) ∧ Owns w' lo (.slice (some ⟨g, 0, none⟩) (l ++ frm s).length cap) (l ++ frm s) ∧ Grew w w' v (.slice (some ⟨g, 0, none⟩) (l ++ frm s).length cap) := by
  obtain ⟨i5, hi5, hz0, hz1, hz2⟩ := info_parts info5
  have hlu := uvF_len 2 s.size
  go_enter Try.func12, Try.ntmps12
  go_wp2_with fail
  refine (uv13 lo v l s.size w (by omega) hown hl hlo).mono ?_
  rintro e w1 ⟨g, cap, rfl, h1, h2⟩
  dsimp only
  obtain ⟨n, hn⟩ : ∃ n, (l ++ uvF 2 s.size).length = n := ⟨_, rfl⟩
  have hn2 : n ≤ 4194307 := by rw [← hn, List.length_append]; omega
  have hlo1 : lo ≤ w1.heap.size := Nat.le_trans hlo h2.grow.size
  rw [hn] at h2 ⊢
  have h1' : w1.ownsRow lo 5 1 (.slice (some ⟨g, 0, none⟩) n cap) n (u8s (l ++ uvF 2 s.size)) := by
    have := h1; unfold Owns at this; rw [hn] at this; exact this
  have HN : Hid ((l ++ uvF 2 s.size).length = n) := hn
  have H2 : Hid _ := h2
  clear hn h1 h2 hown hlu
  go_wp2_with (at_builtin; refine wpList_append_str _ rfl (.tmp 10) (.tmp 11) 22 9 rfl lo 5 i5 (.int .u8 0) Try.underlying22 Try.underlying9 hi5 hz0 hz1 hz2 rfl g cap n _ h1' s (by omega) hlo1 rfl rfl ?_)
  intro g2 cap2 w2 k1 k2
  obtain ⟨e, k3⟩ := put_own HN.out.symm k1
  have K3 : Hid _ := k3
  have K2 : Hid _ := H2.out.trans k2
  clear k1 k2 k3 h1'
  go_wp2
  go_ret
  rw [e] at K3 K2
  exact ⟨g2, cap2, by rw [← e]; rfl, K3.out, K2.out⟩

set_option maxRecDepth 10000 in
set_option maxHeartbeats 1000000 in
theorem put7 (lo : Nat) (v : Value) (l : List Int) (s : ByteArray) (w : World) (hs : s.size ≤ 1048576) (hown : Owns w lo v l) (hl : l.length ≤ 4194304) (hlo : lo ≤ w.heap.size) :
    Calls Try.prog 7 #[v, .string s] w fun e w' => ∃ g cap, e = .returned (.slice (some ⟨g, 0, none⟩) (l ++ frm s).length cap) ∧ Owns w' lo (.slice (some ⟨g, 0, none⟩) (l ++ frm s).length cap) (l ++ frm s) ∧ Grew w w' v (.slice (some ⟨g, 0, none⟩) (l ++ frm s).length cap) := by
  go_enter Try.func7, Try.ntmps7
  go_wp2_with fail
  refine (put12 lo v l s w hs hown hl hlo).mono ?_
  rintro e w1 ⟨g, cap, rfl, h1, h2⟩
  dsimp only
  obtain ⟨n, hn⟩ : ∃ n, (l ++ frm s).length = n := ⟨_, rfl⟩
  have H1 : Hid (Owns w1 lo (.slice (some ⟨g, 0, none⟩) n cap) (l ++ frm s)) := by rw [← hn]; exact h1
  have H2 : Hid (Grew w w1 v (.slice (some ⟨g, 0, none⟩) n cap)) := by rw [← hn]; exact h2
  rw [hn]
  have HN : Hid _ := hn
  clear hn h1 h2 hown
  go_wp2
  go_ret
  rw [HN.out]
  exact ⟨g, cap, rfl, H1.out, H2.out⟩
end Go.Proofs.Qxb6616151a
