/-
  THE WALKS OF THE TWO NUMBER LAWS.
-/
import Derived.Test.Qxb6603968aWalkNum
namespace Go.Proofs.Qxb6603968a.LawNum
open Go.ChangeShapes Go.WideShapes Go.ChangeAt Go.RowKit
open Go.Proofs.Qxb6603968a.Num Go.Proofs.Qxb6603968a.WalkNum
set_option linter.unusedVariables false

theorem k_le (k n : Nat) (hn : n ≤ 18446744073709551615) (h : k = 1 ∨ 10 ^ (k - 1) ≤ n) : k ≤ 20 := by
  rcases h with h | h
  · omega
  · rcases Nat.lt_or_ge 20 k with h' | h'
    · have := pow_mono (show 20 ≤ k - 1 by omega)
      have e : (10 : Nat) ^ 20 = 100000000000000000000 := by decide
      omega
    · exact h'

theorem size_tl (k n : Nat) : (⟨(tl k n).toArray⟩ : ByteArray).size = k := by
  show (tl k n).toArray.size = k
  simp [tl_length]

theorem isNumberForm (n : Int) (k : Nat) (hn0 : 0 ≤ n) (hk1 : 1 ≤ k) (hlt : n.toNat < 10 ^ k) (hge : k = 1 ∨ 10 ^ (k - 1) ≤ n.toNat) :
    (isNum (⟨(tl k n.toNat).toArray⟩ : ByteArray).data.toList == decide (n < 1000000000000000)) = true := by
  show (isNum (tl k n.toNat) == _) = true
  rw [isNum_tl k n.toNat hk1 hlt hge]
  have : (n.toNat < 1000000000000000) ↔ (n < 1000000000000000) := by omega
  simp [this]

set_option maxHeartbeats 400000 in
theorem decimalForm (a0 : Int) (h0 : 0 ≤ a0) (h1 : a0 ≤ 18446744073709551615) (w : World) :
    Calls Try.prog 4 #[.int .u64 a0] w fun e w' => e = .returned (.bool true) ∧ Grown w w' := by
  go_enter Try.func4, Try.ntmps4
  go_wp2_with fail
  refine (utoa_any a0 h0 h1 _).mono ?_
  rintro e w1 ⟨⟨k, hk1, hlt, hge, rfl⟩, hg⟩
  have hk20 := k_le k a0.toNat (by omega) hge
  have hfin := isNumberForm a0 k h0 hk1 hlt hge
  have HF : Hid ((isNum (⟨(tl k a0.toNat).toArray⟩ : ByteArray).data.toList == decide (a0 < 1000000000000000)) = true) := hfin
  clear hfin hlt hge
  go_wp2_with fail
  refine (ZZisNumber_any _ _ (by rw [size_tl]; unfold maxLen; omega)).mono ?_
  rintro e w2 ⟨rfl, rfl⟩
  go_wp2
  go_ret
  exact ⟨ret_bool HF.out, hg⟩

/-! ### the second law -/
theorem bytes8 (s : ByteArray) (w : World) (h : s.size ≤ 1048576) : Calls Try.prog 8 #[.string s] w fun e w' => e = .returned (.bool true) ∧ w' = w := by
  go_enter Try.func8, Try.ntmps8
  go_wp2
  go_ret
  exact ⟨rfl, rfl⟩

theorem val_take (s : ByteArray) (k : Nat) (h : k < s.size) (h1 : 48 ≤ ((s[k]'h).toNat : Int)) (h2 : ((s[k]'h).toNat : Int) ≤ 57) (q : Nat) (hq : q = val (s.data.toList.take k)) :
    (q : Int) * 10 + (((s[k]'h).toNat : Int) - 48) = ((val (s.data.toList.take (k + 1)) : Nat) : Int) := by
  rw [take_snoc s k h, val_snoc, ← hq]
  omega
theorem val_bound (s : ByteArray) (k : Nat) (hk : k ≤ 18) (ha : (s.data.toList.take k).all isDig = true) : val (s.data.toList.take k) ≤ 999999999999999999 := by
  have := (tl_val _ ha).2
  have hl : (s.data.toList.take k).length ≤ 18 := Nat.le_trans (List.length_take_le _ _) hk
  have e : (10 : Nat) ^ 18 = 1000000000000000000 := by decide
  have := pow_mono hl
  omega

theorem canonLaw (s : ByteArray) (q k : Nat) (hp : 0 < s.size) (hall : s.data.toList.all isDig = true) (hq : q = val s.data.toList) (hk1 : 1 ≤ k) (hlt : q < 10 ^ k) (hge : k = 1 ∨ 10 ^ (k - 1) ≤ q)
    (hn : q < 1000000000000000) : (isNum s.data.toList == (tl k q == s.data.toList)) = true := by
  subst hq
  rw [isNum_canon s.data.toList k (by rw [lenL]; exact hp) hall hk1 hlt hge hn]
  by_cases h : tl k (val s.data.toList) = s.data.toList <;> simp [h]

set_option maxHeartbeats 1000000 in
theorem exact15 (s : ByteArray) (hs : s.size ≤ maxLen) (w : World) :
    Calls Try.prog 3 #[.string s] w fun e w' => e = .returned (.bool true) ∧ Grown w w' := by
  by_cases hbig : 1048576 < s.size
  · unfold maxLen at hs
    go_enter Try.func3, Try.ntmps3
    go_wp2
    go_ret
    exact ⟨rfl, Grown.refl _⟩
  by_cases h19 : 1 ≤ s.size ∧ s.size ≤ 19
  · obtain ⟨h1, h19⟩ := h19
    have hsl := hs
    unfold maxLen at hs
    have d13 : decide (1048576 < (s.size : Int)) = false := decide_eq_false (by omega)
    have d20 : decide ((s.size : Int) ≤ 19) = true := decide_eq_true (by omega)
    go_enter Try.func3, Try.ntmps3
    go_wp2_with fail
    refine (bytes8 s _ (by omega)).mono ?_
    rintro e w1 ⟨rfl, rfl⟩
    go_wp2_with fail
    go_loop [4, 5, 6] (fun d n i => ∃ k q : Nat, k ≤ s.size ∧ d = .bool true ∧ i = .int .i64 k ∧ n = .int .u64 (q : Int) ∧ Hid ((s.data.toList.take k).all isDig = true) ∧ Hid (q = val (s.data.toList.take k))) (fun _ _ i => s.size - (intOf i).toNat)
    case atStart => exact ⟨0, 0, by omega, rfl, rfl, rfl, rfl, rfl⟩
    case round =>
      obtain ⟨k, q, hk, rfl, rfl, rfl, HA, HQ⟩ := hrel
      by_cases hlt : k < s.size
      · have hq : q ≤ 999999999999999999 := by rw [HQ.out]; exact val_bound s k (by omega) HA.out
        have hc0 : 0 ≤ ((s[k]'hlt).toNat : Int) := by omega
        have hc1 : ((s[k]'hlt).toNat : Int) ≤ 255 := by have := (s[k]'hlt).toNat_lt; omega
        by_cases hd : 48 ≤ ((s[k]'hlt).toNat : Int) ∧ ((s[k]'hlt).toNat : Int) ≤ 57
        · obtain ⟨hd1, hd2⟩ := hd
          have HV : Hid (dval ((s[k]'hlt).toNat : Int) = ((s[k]'hlt).toNat : Int) - 48) := by show dval _ = _; unfold dval; rw [if_pos ⟨hd1, hd2⟩]
          go_wp2_with (go_at_call 9; refine (digitValue_any _ hc0 hc1 _).mono ?_; rintro e w' ⟨rfl, rfl⟩; rw [HV.out])
          go_round
          case rel => exact ⟨k + 1, val (s.data.toList.take (k + 1)), by omega, rfl, by go_num, by rw [← val_take s k hlt hd1 hd2 q HQ.out], all_next s k hlt HA.out hd1 hd2, rfl⟩
          case measure => simp [intOf]; omega
        · have HV : Hid (dval ((s[k]'hlt).toNat : Int) = -1) := by show dval _ = _; unfold dval; rw [if_neg hd]
          have HF : Hid (isNum s.data.toList = false) := isNum_bad s k hlt (by omega)
          clear hd
          go_wp2_with (first | (go_at_call 9; refine (digitValue_any _ hc0 hc1 _).mono ?_; rintro e w' ⟨rfl, rfl⟩; rw [HV.out]) | (go_at_call 11; refine (ZZisNumber_any s _ hsl).mono ?_; rintro e w' ⟨rfl, rfl⟩))
          go_ret
          exact ⟨ret_bool (by rw [HF.out]; rfl), Grown.refl _⟩
      · have hall : Hid (s.data.toList.all isDig = true) := all_end s k (by omega) HA.out
        have hqv : Hid (q = val s.data.toList) := by show q = _; rw [HQ.out, List.take_of_length_le (by rw [lenL]; omega)]
        by_cases hn : (q : Int) < 1000000000000000
        · go_wp2_with fail
          refine (utoa_any (q : Int) (by omega) (by omega) _).mono ?_
          rw [Int.toNat_natCast]
          rintro e w2 ⟨⟨m, hm1, hmlt, hmge, rfl⟩, hg⟩
          have HL : Hid ((isNum s.data.toList == (tl m q == s.data.toList)) = true) := canonLaw s q m h1 hall.out hqv.out hm1 hmlt hmge (by omega)
          clear hmlt hmge
          go_wp2_with fail
          refine (ZZisNumber_any s _ hsl).mono ?_
          rintro e w3 ⟨rfl, rfl⟩
          go_wp2
          go_ret
          exact ⟨ret_bool (by rw [ByteArray.toList_eq]; exact HL.out), hg⟩
        · have HF : Hid (isNum s.data.toList = false) := isNum_big _ hall.out (by rw [← hqv.out]; omega)
          go_wp2_with fail
          refine (ZZisNumber_any s _ hsl).mono ?_
          rintro e w3 ⟨rfl, rfl⟩
          go_wp2
          go_ret
          exact ⟨ret_bool (by rw [HF.out]; rfl), Grown.refl _⟩
  · have hF : Hid (isNum s.data.toList = false) := by
      by_cases h0 : s.size = 0
      · have : s.data.toList = [] := List.eq_nil_of_length_eq_zero (by rw [lenL]; exact h0)
        show isNum s.data.toList = false
        rw [this]; rfl
      · exact isNum_long _ (by rw [lenL]; omega)
    have hsl := hs
    unfold maxLen at hs
    go_enter Try.func3, Try.ntmps3
    go_wp2_with fail
    refine (bytes8 s _ (by omega)).mono ?_
    rintro e w1 ⟨rfl, rfl⟩
    go_wp2_with fail
    all_goals
      refine (ZZisNumber_any s _ hsl).mono ?_
      rintro e w1 ⟨rfl, rfl⟩
      go_wp2
      go_ret
      exact ⟨ret_bool (by rw [hF.out]; rfl), Grown.refl _⟩
end Go.Proofs.Qxb6603968a.LawNum
