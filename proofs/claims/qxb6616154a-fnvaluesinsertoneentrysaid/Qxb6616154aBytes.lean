import Derived.Test.Qxb6616154aBase
namespace Go.Proofs.Qxb6616154a
open Go.RowKit Go.Deep Go.Joins

/-- The call came back with a bool; where it is false, p. -/
def GaveNot (e : Ending) (p : Prop) : Prop := ∃ b, e = .returned (.bool b) ∧ (b = false → p)
theorem notYes (p : Prop) : GaveNot (.returned (.bool true)) p := ⟨true, rfl, fun h => by cases h⟩
theorem notNo {p : Prop} (h : p) : GaveNot (.returned (.bool false)) p := ⟨false, rfl, fun _ => h⟩

set_option maxRecDepth 10000 in
set_option maxHeartbeats 2000000 in
theorem bytes6 (A0 A1 A2 : Option Addr) (n0 c0 n1 c1 n2 c2 : Nat) (cut : Int) (s : ByteArray) (nm vl : Nat → ByteArray) (w : World)
    (h0 : n0 ≤ maxLen) (h1 : n1 ≤ maxLen) (h2 : n2 ≤ maxLen) (hs : s.size ≤ maxLen) (hnm : ∀ i, i < n0 → (nm i).size ≤ maxLen) (hvl : ∀ i, i < n2 → (vl i).size ≤ maxLen)
    (hc0 : Cells w A0 n0 (fun i => .string (nm i))) (hc2 : Cells w A2 n2 (fun i => .string (vl i))) :
    Calls Try.prog 6 #[.slice A0 n0 c0, .slice A1 n1 c1, .slice A2 n2 c2, .int .i64 cut, .string s] w fun e w' => GaveOk e True ∧ w' = w := by
  unfold maxLen at h0 h1 h2 hs hnm hvl
  have H1 : Hid (∀ i, i < n0 → (nm i).size ≤ 9223372036854775807) := hnm
  have H2 : Hid (∀ i, i < n2 → (vl i).size ≤ 9223372036854775807) := hvl
  have C0 : Hid (Cells w A0 n0 (fun i => .string (nm i))) := hc0
  have C2 : Hid (Cells w A2 n2 (fun i => .string (vl i))) := hc2
  clear hnm hvl hc0 hc2
  go_enter Try.func6, Try.ntmps6
  go_wp2
  all_goals try (go_ret; exact ⟨gaveNo _, rfl⟩)
  go_loop [11, 12] (fun z i => ∃ (k : Nat) (s : Int), k ≤ n0 ∧ i = .int .i64 k ∧ z = .int .i64 s ∧ 0 ≤ s ∧ s ≤ 1048576) (fun _ i => n0 - (intOf i).toNat)
  case atStart => exact ⟨0, _, Nat.zero_le _, rfl, rfl, by omega, by omega⟩
  case round =>
    obtain ⟨k, z, hk, rfl, rfl, hs0, hs1⟩ := hrel
    by_cases hlt : k < n0
    · obtain ⟨b, off, rfl, hb, hcc⟩ := C0.out.lit (by omega)
      have hck := hcc k hlt
      have hLk := H1.out k hlt
      clear hcc C0 C2 H1 H2
      go_wp2
      all_goals first | (go_ret; exact ⟨gaveNo _, rfl⟩) | skip
      all_goals
        go_round
        case rel => exact ⟨k + 1, _, by omega, by go_num, rfl, by omega, by omega⟩
        case measure => simp [intOf]; omega
    · clear C0 H1
      go_wp2
      all_goals try (go_ret; exact ⟨gaveNo _, rfl⟩)
      go_loop [11, 13] (fun z i => ∃ (k : Nat) (s : Int), k ≤ n2 ∧ i = .int .i64 k ∧ z = .int .i64 s ∧ 0 ≤ s ∧ s ≤ 1048576) (fun _ i => n2 - (intOf i).toNat)
      case atStart => exact ⟨0, _, Nat.zero_le _, rfl, rfl, by omega, by omega⟩
      case round =>
        obtain ⟨k2, z2, hk2, rfl, rfl, hs02, hs12⟩ := hrel
        by_cases hlt2 : k2 < n2
        · obtain ⟨b, off, rfl, hb, hcc⟩ := C2.out.lit (by omega)
          have hck := hcc k2 hlt2
          have hLk := H2.out k2 hlt2
          clear hcc C2 H2
          go_wp2
          all_goals first | (go_ret; exact ⟨gaveNo _, rfl⟩) | skip
          all_goals
            go_round
            case rel => exact ⟨k2 + 1, _, by omega, by go_num, rfl, by omega, by omega⟩
            case measure => simp [intOf]; omega
        · clear C2 H2
          go_wp2
          all_goals first | (go_ret; exact ⟨gaveNo _, rfl⟩) | (go_ret; exact ⟨gaveYes trivial, rfl⟩)

set_option maxRecDepth 10000 in
set_option maxHeartbeats 2000000 in
theorem bytes13 (A0 A1 A2 : Option Addr) (n0 c0 n1 c1 n2 c2 : Nat) (cut nl : Int) (s s1 s2 : ByteArray) (nm vl : Nat → ByteArray) (w : World)
    (h0 : n0 ≤ maxLen) (h1 : n1 ≤ maxLen) (h2 : n2 ≤ maxLen) (hs : s.size ≤ maxLen) (hsa : s1.size ≤ maxLen) (hsb : s2.size ≤ maxLen) (hnm : ∀ i, i < n0 → (nm i).size ≤ maxLen) (hvl : ∀ i, i < n2 → (vl i).size ≤ maxLen)
    (hc0 : Cells w A0 n0 (fun i => .string (nm i))) (hc2 : Cells w A2 n2 (fun i => .string (vl i))) :
    Calls Try.prog 13 #[.slice A0 n0 c0, .slice A1 n1 c1, .slice A2 n2 c2, .int .i64 cut, .string s1, .int .i64 nl, .string s2, .string s] w fun e w' => GaveOk e True ∧ w' = w := by
  unfold maxLen at h0 h1 h2 hs hsa hsb hnm hvl
  have H1 : Hid (∀ i, i < n0 → (nm i).size ≤ 9223372036854775807) := hnm
  have H2 : Hid (∀ i, i < n2 → (vl i).size ≤ 9223372036854775807) := hvl
  have C0 : Hid (Cells w A0 n0 (fun i => .string (nm i))) := hc0
  have C2 : Hid (Cells w A2 n2 (fun i => .string (vl i))) := hc2
  clear hnm hvl hc0 hc2
  go_enter Try.func13, Try.ntmps13
  go_wp2
  all_goals try (go_ret; exact ⟨gaveNo _, rfl⟩)
  go_loop [17, 18] (fun z i => ∃ (k : Nat) (s : Int), k ≤ n0 ∧ i = .int .i64 k ∧ z = .int .i64 s ∧ 0 ≤ s ∧ s ≤ 1048576) (fun _ i => n0 - (intOf i).toNat)
  case atStart => exact ⟨0, _, Nat.zero_le _, rfl, rfl, by omega, by omega⟩
  case round =>
    obtain ⟨k, z, hk, rfl, rfl, hs0, hs1'⟩ := hrel
    by_cases hlt : k < n0
    · obtain ⟨b, off, rfl, hb, hcc⟩ := C0.out.lit (by omega)
      have hck := hcc k hlt
      have hLk := H1.out k hlt
      clear hcc C0 C2 H1 H2
      go_wp2
      all_goals first | (go_ret; exact ⟨gaveNo _, rfl⟩) | skip
      all_goals
        go_round
        case rel => exact ⟨k + 1, _, by omega, by go_num, rfl, by omega, by omega⟩
        case measure => simp [intOf]; omega
    · clear C0 H1
      go_wp2
      all_goals try (go_ret; exact ⟨gaveNo _, rfl⟩)
      go_loop [17, 19] (fun z i => ∃ (k : Nat) (s : Int), k ≤ n2 ∧ i = .int .i64 k ∧ z = .int .i64 s ∧ 0 ≤ s ∧ s ≤ 1048576) (fun _ i => n2 - (intOf i).toNat)
      case atStart => exact ⟨0, _, Nat.zero_le _, rfl, rfl, by omega, by omega⟩
      case round =>
        obtain ⟨k2, z2, hk2, rfl, rfl, hs02, hs12⟩ := hrel
        by_cases hlt2 : k2 < n2
        · obtain ⟨b, off, rfl, hb, hcc⟩ := C2.out.lit (by omega)
          have hck := hcc k2 hlt2
          have hLk := H2.out k2 hlt2
          clear hcc C2 H2
          go_wp2
          all_goals first | (go_ret; exact ⟨gaveNo _, rfl⟩) | skip
          all_goals
            go_round
            case rel => exact ⟨k2 + 1, _, by omega, by go_num, rfl, by omega, by omega⟩
            case measure => simp [intOf]; omega
        · clear C2 H2
          go_wp2
          all_goals first | (go_ret; exact ⟨gaveNo _, rfl⟩) | (go_ret; exact ⟨gaveYes trivial, rfl⟩)

set_option maxRecDepth 10000 in
set_option maxHeartbeats 2000000 in
theorem big7 (A0 A1 A2 : Option Addr) (n0 c0 n1 c1 n2 c2 : Nat) (x : Int) (nm vl : Nat → ByteArray) (w : World)
    (h0 : n0 ≤ maxLen) (h1 : n1 ≤ maxLen) (h2 : n2 ≤ maxLen) (hnm : ∀ i, i < n0 → (nm i).size ≤ maxLen) (hvl : ∀ i, i < n2 → (vl i).size ≤ maxLen)
    (hc0 : Cells w A0 n0 (fun i => .string (nm i))) (hc2 : Cells w A2 n2 (fun i => .string (vl i))) :
    Calls Try.prog 7 #[.slice A0 n0 c0, .slice A1 n1 c1, .slice A2 n2 c2, .int .i64 x] w fun e w' => GaveNot e (n0 ≤ 65536 ∧ n1 ≤ 65536 ∧ n2 ≤ 65536) ∧ w' = w := by
  unfold maxLen at h0 h1 h2 hnm hvl
  have H1 : Hid (∀ i, i < n0 → (nm i).size ≤ 9223372036854775807) := hnm
  have H2 : Hid (∀ i, i < n2 → (vl i).size ≤ 9223372036854775807) := hvl
  have C0 : Hid (Cells w A0 n0 (fun i => .string (nm i))) := hc0
  have C2 : Hid (Cells w A2 n2 (fun i => .string (vl i))) := hc2
  clear hnm hvl hc0 hc2
  go_enter Try.func7, Try.ntmps7
  go_wp2
  all_goals try (go_ret; exact ⟨notYes _, rfl⟩)
  go_loop [9, 10] (fun z i => ∃ (k : Nat) (s : Int), k ≤ n0 ∧ i = .int .i64 k ∧ z = .int .i64 s) (fun _ i => n0 - (intOf i).toNat)
  case atStart => exact ⟨0, _, Nat.zero_le _, rfl, rfl⟩
  case round =>
    obtain ⟨k, z, hk, rfl, rfl⟩ := hrel
    by_cases hlt : k < n0
    · obtain ⟨b, off, rfl, hb, hcc⟩ := C0.out.lit (by omega)
      have hck := hcc k hlt
      have hLk := H1.out k hlt
      clear hcc C0 C2 H1 H2
      go_wp2
      all_goals first | (go_ret; exact ⟨notYes _, rfl⟩) | skip
      all_goals
        go_round
        case rel => exact ⟨k + 1, _, by omega, by go_num, rfl⟩
        case measure => simp [intOf]; omega
    · clear C0 H1
      go_wp2
      all_goals try (go_ret; exact ⟨notYes _, rfl⟩)
      go_loop [9, 11] (fun z i => ∃ (k : Nat) (s : Int), k ≤ n2 ∧ i = .int .i64 k ∧ z = .int .i64 s) (fun _ i => n2 - (intOf i).toNat)
      case atStart => exact ⟨0, _, Nat.zero_le _, rfl, rfl⟩
      case round =>
        obtain ⟨k2, z2, hk2, rfl, rfl⟩ := hrel
        by_cases hlt2 : k2 < n2
        · obtain ⟨b, off, rfl, hb, hcc⟩ := C2.out.lit (by omega)
          have hck := hcc k2 hlt2
          have hLk := H2.out k2 hlt2
          clear hcc C2 H2
          go_wp2
          all_goals first | (go_ret; exact ⟨notYes _, rfl⟩) | skip
          all_goals
            go_round
            case rel => exact ⟨k2 + 1, _, by omega, by go_num, rfl⟩
            case measure => simp [intOf]; omega
        · clear C2 H2
          have hfin : n0 ≤ 65536 ∧ n1 ≤ 65536 ∧ n2 ≤ 65536 := by omega
          have HF : Hid (n0 ≤ 65536 ∧ n1 ≤ 65536 ∧ n2 ≤ 65536) := hfin
          clear hfin
          go_wp2
          all_goals first | (go_ret; exact ⟨notNo HF.out, rfl⟩) | (go_ret; exact ⟨notYes _, rfl⟩)
end Go.Proofs.Qxb6616154a
