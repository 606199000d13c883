/-
  THE WALKS OF escapedAt, ZZescapedAt, AND OF THE LAW OVER THEM.
-/
import Derived.Test.Qxb6603968aWalkNum
namespace Go.Proofs.Qxb6603968a.WalkEsc
open Go.ChangeShapes Go.WideShapes Go.ChangeAt Go.RowKit
open Go.Proofs.Qxb6603968a.WalkNum
set_option linter.unusedVariables false

/-- The byte of a hexadecimal digit. -/
def Hex (c : Int) : Prop := (48 ≤ c ∧ c ≤ 57) ∨ (97 ≤ c ∧ c ≤ 102) ∨ (65 ≤ c ∧ c ≤ 70)

set_option maxHeartbeats 400000 in
theorem escapedAt_hex (s : ByteArray) (w : World) (hs : s.size ≤ maxLen) (h7 : 7 ≤ s.size) (h1 : ((s[1]'(by omega)).toNat : Int) = 120)
    (hh : ∀ (i : Nat) (hi : i < s.size), 2 ≤ i → i < 6 → Hex ((s[i]'hi).toNat : Int)) :
    Calls Try.prog 19 #[.string s] w fun e w' => e = .returned (.bool (((s[6]'(by omega)).toNat : Int) == 95)) ∧ w' = w := by
  unfold maxLen at hs
  have HH : Hid (∀ (i : Nat) (hi : i < s.size), 2 ≤ i → i < 6 → Hex ((s[i]'hi).toNat : Int)) := hh
  clear hh
  obtain ⟨B, hB⟩ : ∃ B, (((s[6]'(by omega)).toNat : Int) == 95) = B := ⟨_, rfl⟩
  rw [hB]
  have HB : Hid ((((s[6]'(by omega)).toNat : Int) == 95) = B) := hB
  clear hB
  have b7 : decide ((s.size : Int) < 7) = false := decide_eq_false (by omega)
  have b1 : (((s[1]'(by omega)).toNat : Int) != 120) = false := by rw [h1]; rfl
  by_cases h6 : ((s[6]'(by omega)).toNat : Int) = 95
  · have b6 : (((s[6]'(by omega)).toNat : Int) != 95) = false := by rw [h6]; rfl
    go_enter Try.func19, Try.ntmps19
    go_wp2
    go_loop [3] (fun i => ∃ k : Nat, 2 ≤ k ∧ k ≤ 6 ∧ i = .int .i64 k) (fun i => 6 - (intOf i).toNat)
    case atStart => exact ⟨2, by omega, by omega, rfl⟩
    case round =>
      obtain ⟨k, hk2, hk6, rfl⟩ := hrel
      by_cases hlt : k < 6
      · have hks : k < s.size := by omega
        have hx := HH.out k hks hk2 hlt
        rcases hx with ⟨hx1, hx2⟩ | ⟨hx1, hx2⟩ | ⟨hx1, hx2⟩
        all_goals
          go_wp2
          go_round
          case rel => exact ⟨k + 1, by omega, by omega, by go_num⟩
          case measure => simp [intOf]; omega
      · go_wp2
        go_ret
        exact ⟨ret_bool (by rw [← HB.out, h6]; rfl), rfl⟩
  · have b6 : (((s[6]'(by omega)).toNat : Int) != 95) = true := by simpa using h6
    go_enter Try.func19, Try.ntmps19
    go_wp2
    go_ret
    exact ⟨ret_bool (by rw [← HB.out]; simpa using h6), rfl⟩

theorem ZZescapedAt_hex (s : ByteArray) (w : World) (hs : s.size ≤ maxLen) (h7 : 7 ≤ s.size) (h1 : ((s[1]'(by omega)).toNat : Int) = 120)
    (hh : ∀ (i : Nat) (hi : i < s.size), 2 ≤ i → i < 6 → Hex ((s[i]'hi).toNat : Int)) :
    Calls Try.prog 13 #[.string s] w fun e w' => e = .returned (.bool (((s[6]'(by omega)).toNat : Int) == 95)) ∧ w' = w := by
  have H := escapedAt_hex s w hs h7 h1 hh
  obtain ⟨B, hB⟩ : ∃ B, (((s[6]'(by omega)).toNat : Int) == 95) = B := ⟨_, rfl⟩
  rw [hB] at H ⊢
  have HC : Hid (Calls Try.prog 19 #[.string s] w fun e w' => e = .returned (.bool B) ∧ w' = w) := H
  clear hB H hh h1
  go_enter Try.func13, Try.ntmps13
  go_wp2_with (go_at_call 19; refine HC.out.mono ?_; rintro e w' ⟨rfl, rfl⟩)
  go_ret
  exact ⟨rfl, rfl⟩

theorem bytes12 (a : Int) (b : Bool) (c : Int) (s : ByteArray) (w : World) (h : s.size ≤ 1048576) : Calls Try.prog 12 #[.int .u16 a, .bool b, .int .u8 c, .string s] w fun e w' => e = .returned (.bool true) ∧ w' = w := by
  go_enter Try.func12, Try.ntmps12
  go_wp2
  go_ret
  exact ⟨rfl, rfl⟩

theorem and15 (x : Int) (h0 : 0 ≤ x) (h1 : x ≤ 65535) : ∃ j : Nat, j < 16 ∧ bits .and .u16 x 15 = (j : Int) := by
  refine ⟨x.toNat % 16, Nat.mod_lt _ (by omega), ?_⟩
  rw [u16_and x 15 h0 (by omega) (by omega) (by omega)]
  have : (15 : Int).toNat = 15 := rfl
  rw [this, nat_mask4]

def lowS : ByteArray := ⟨#[48, 49, 50, 51, 52, 53, 54, 55, 56, 57, 97, 98, 99, 100, 101, 102]⟩
def uppS : ByteArray := ⟨#[48, 49, 50, 51, 52, 53, 54, 55, 56, 57, 65, 66, 67, 68, 69, 70]⟩

theorem hex_low : ∀ c ∈ lowS.data.toList, Hex (c.toNat : Int) := by
  intro c hc
  simp only [lowS, List.mem_cons, List.not_mem_nil, or_false] at hc
  rcases hc with rfl | rfl | rfl | rfl | rfl | rfl | rfl | rfl | rfl | rfl | rfl | rfl | rfl | rfl | rfl | rfl <;> (unfold Hex; decide)
theorem hex_upp : ∀ c ∈ uppS.data.toList, Hex (c.toNat : Int) := by
  intro c hc
  simp only [uppS, List.mem_cons, List.not_mem_nil, or_false] at hc
  rcases hc with rfl | rfl | rfl | rfl | rfl | rfl | rfl | rfl | rfl | rfl | rfl | rfl | rfl | rfl | rfl | rfl <;> (unfold Hex; decide)

theorem idx_hex (T : ByteArray) (hT : T.size = 16) (hx : ∀ c ∈ T.data.toList, Hex (c.toNat : Int)) (x : Int) (h0 : 0 ≤ x) (h1 : x ≤ 65535) :
    ∃ d : UInt8, Hex (d.toNat : Int) ∧ ∀ wx, (Instr.index 9 (.string T) (.int .u16 (bits .and .u16 x 15))).run Try.prog wx = .ok (.int .u8 (d.toNat : Int)) wx := by
  obtain ⟨j, hj, e⟩ := and15 x h0 h1
  refine ⟨T[j]'(by omega), hx _ (List.mem_of_getElem? (getL T j (by omega))), fun wx => ?_⟩
  rw [run_index_string wx 9 _ .u16 _ Try.underlying9, dif_pos ⟨by omega, by rw [e]; omega⟩]
  simp only [e, Int.toNat_natCast]

theorem conv_head (d1 d2 d3 d4 c : UInt8) (w : World) :
    (convert 31 9 (.slice (some ⟨w.heap.size, 0, none⟩) 7 7)).run Try.prog (w.alloc (.cells #[.int .u8 95, .int .u8 120, .int .u8 (d1.toNat : Int), .int .u8 (d2.toNat : Int), .int .u8 (d3.toNat : Int), .int .u8 (d4.toNat : Int), .int .u8 (c.toNat : Int)] 29))
      = .ok (.string ⟨#[95, 120, d1, d2, d3, d4, c]⟩) (w.alloc (.cells #[.int .u8 95, .int .u8 120, .int .u8 (d1.toNat : Int), .int .u8 (d2.toNat : Int), .int .u8 (d3.toNat : Int), .int .u8 (d4.toNat : Int), .int .u8 (c.toNat : Int)] 29)) := by
  refine run_convert_bytes_back _ 31 9 5 _ _ [95, 120, d1, d2, d3, d4, c] Try.underlying31 Try.underlying5 Try.underlying9 ?_
  intro j hj
  have e : (⟨w.heap.size, 0, none⟩ : Addr).add j = ⟨w.heap.size, j, none⟩ := by simp [Addr.add]; exact fun h => h.symm
  rw [e, World.cell?_alloc_mark]
  match j, hj with
  | 0, _ => rfl
  | 1, _ => rfl
  | 2, _ => rfl
  | 3, _ => rfl
  | 4, _ => rfl
  | 5, _ => rfl
  | 6, _ => rfl

theorem app_left (A B : ByteArray) (i : Nat) (hA : i < A.size) (h : i < (A ++ B).size) : (A ++ B)[i]'h = A[i] := ByteArray.getElem_append_left hA

theorem ZZ_head (d1 d2 d3 d4 c : UInt8) (x1 : Hex (d1.toNat : Int)) (x2 : Hex (d2.toNat : Int)) (x3 : Hex (d3.toNat : Int)) (x4 : Hex (d4.toNat : Int)) (a3 : ByteArray) (hs : a3.size ≤ 1048576) (w : World) :
    Calls Try.prog 13 #[.string (⟨#[95, 120, d1, d2, d3, d4, c]⟩ ++ a3)] w fun e w' => e = .returned (.bool ((c.toNat : Int) == 95)) ∧ w' = w := by
  have hA : (⟨#[95, 120, d1, d2, d3, d4, c]⟩ : ByteArray).size = 7 := rfl
  have hsz : ((⟨#[95, 120, d1, d2, d3, d4, c]⟩ : ByteArray) ++ a3).size = 7 + a3.size := by rw [ByteArray.size_append, hA]
  have h := ZZescapedAt_hex (⟨#[95, 120, d1, d2, d3, d4, c]⟩ ++ a3) w (by rw [hsz]; unfold maxLen; omega) (by rw [hsz]; omega)
    (by rw [app_left _ _ 1 (by rw [hA]; omega)]; rfl)
    (by
      intro i hi h2 h6
      rw [app_left _ _ i (by rw [hA]; omega)]
      match i, h2, h6 with
      | 2, _, _ => exact x1
      | 3, _, _ => exact x2
      | 4, _, _ => exact x3
      | 5, _, _ => exact x4)
  rw [app_left _ _ 6 (by rw [hA]; omega)] at h
  exact h

set_option maxHeartbeats 1000000 in
theorem escaped (a0 : Int) (a1 : Bool) (a2 : Int) (a3 : ByteArray) (v0 : 0 ≤ a0) (v1 : a0 ≤ 65535) (c0 : 0 ≤ a2) (c1 : a2 ≤ 255) (w3 : a3.size ≤ maxLen) (w : World) :
    Calls Try.prog 5 #[.int .u16 a0, .bool a1, .int .u8 a2, .string a3] w fun e w' => e = .returned (.bool true) ∧ Grown w w' := by
  have hsl := w3
  unfold maxLen at w3
  by_cases hbig : 1048576 < a3.size
  · go_enter Try.func5, Try.ntmps5
    go_wp2
    go_ret
    exact ⟨rfl, Grown.refl _⟩
  obtain ⟨c, rfl⟩ : ∃ c : UInt8, a2 = (c.toNat : Int) := ⟨UInt8.ofNat a2.toNat, by rw [UInt8.toNat_ofNat']; omega⟩
  cases a1
  · obtain ⟨d1, x1, i1⟩ := idx_hex lowS rfl hex_low (a0 / 4096) (by omega) (by omega)
    obtain ⟨d2, x2, i2⟩ := idx_hex lowS rfl hex_low (a0 / 256) (by omega) (by omega)
    obtain ⟨d3, x3, i3⟩ := idx_hex lowS rfl hex_low (a0 / 16) (by omega) (by omega)
    obtain ⟨d4, x4, i4⟩ := idx_hex lowS rfl hex_low a0 (by omega) (by omega)
    have hcv := conv_head d1 d2 d3 d4 c
    simp only [lowS] at i1 i2 i3 i4
    go_enter Try.func5, Try.ntmps5
    go_wp2_with fail
    refine (bytes12 _ _ _ _ _ (by omega)).mono ?_
    rintro e w1 ⟨rfl, rfl⟩
    go_wp2_with fail
    refine (ZZ_head d1 d2 d3 d4 c x1 x2 x3 x4 a3 (by omega) _).mono ?_
    rintro e w2 ⟨rfl, rfl⟩
    go_wp2
    go_ret
    exact ⟨ret_bool (by simp), (Grown.refl _).alloc _ _⟩
  · obtain ⟨d1, x1, i1⟩ := idx_hex uppS rfl hex_upp (a0 / 4096) (by omega) (by omega)
    obtain ⟨d2, x2, i2⟩ := idx_hex uppS rfl hex_upp (a0 / 256) (by omega) (by omega)
    obtain ⟨d3, x3, i3⟩ := idx_hex uppS rfl hex_upp (a0 / 16) (by omega) (by omega)
    obtain ⟨d4, x4, i4⟩ := idx_hex uppS rfl hex_upp a0 (by omega) (by omega)
    have hcv := conv_head d1 d2 d3 d4 c
    simp only [uppS] at i1 i2 i3 i4
    go_enter Try.func5, Try.ntmps5
    go_wp2_with fail
    refine (bytes12 _ _ _ _ _ (by omega)).mono ?_
    rintro e w1 ⟨rfl, rfl⟩
    go_wp2_with fail
    refine (ZZ_head d1 d2 d3 d4 c x1 x2 x3 x4 a3 (by omega) _).mono ?_
    rintro e w2 ⟨rfl, rfl⟩
    go_wp2
    go_ret
    exact ⟨ret_bool (by simp), (Grown.refl _).alloc _ _⟩
end Go.Proofs.Qxb6603968a.WalkEsc
