/-
  THE WALK OF zzSeqLen: one theorem for each kind of first byte.
-/
import Derived.Test.Qxb6603968aWalkUtf
import Derived.Test.Qxb6603968aUtf2
namespace Go.Proofs.Qxb6603968a.WalkSeq
open Go.ChangeShapes Go.WideShapes Go.ChangeAt Go.RowKit
open Go.Proofs.Qxb6603968a.WalkNum Go.Proofs.Qxb6603968a.Utf
set_option linter.unusedVariables false

theorem bi (s : ByteArray) (n : Nat) (h : n < s.size) : ((s[n]'h).toNat : Int) = (bt s n : Int) := by rw [bt_get]

theorem seq_ascii (s : ByteArray) (i : Nat) (hi : i < s.size) (hs : s.size ≤ 1048576) (hb : ((s[i]'hi).toNat : Int) < 128) (w : World) :
    Calls Try.prog 21 #[.string s, .int .i64 (i : Int)] w fun e w' => e = .returned (.int .i64 1) ∧ w' = w := by
  go_enter Try.func21, Try.ntmps21
  go_wp2
  go_ret
  exact ⟨rfl, rfl⟩

set_option maxRecDepth 100000 in
theorem seq_low (s : ByteArray) (i : Nat) (hi : i < s.size) (hs : s.size ≤ 1048576) (h1 : 128 ≤ ((s[i]'hi).toNat : Int)) (h2 : ((s[i]'hi).toNat : Int) ≤ 193) (w : World) :
    Calls Try.prog 21 #[.string s, .int .i64 (i : Int)] w fun e w' => e = .returned (.int .i64 0) ∧ w' = w := by
  have t0 : decide (((s[i]'hi).toNat : Int) < 128) = false := decide_eq_false (by omega)
  have t1 : decide (194 ≤ ((s[i]'hi).toNat : Int)) = false := decide_eq_false (by omega)
  have t2 : decide (((s[i]'hi).toNat : Int) ≤ 223) = true := decide_eq_true (by omega)
  have t3 : (((s[i]'hi).toNat : Int) == 224) = false := beq_eq_false_iff_ne.2 (by omega)
  have t4 : decide (225 ≤ ((s[i]'hi).toNat : Int)) = false := decide_eq_false (by omega)
  have t5 : decide (((s[i]'hi).toNat : Int) ≤ 236) = true := decide_eq_true (by omega)
  have t6 : (((s[i]'hi).toNat : Int) == 238) = false := beq_eq_false_iff_ne.2 (by omega)
  have t7 : (((s[i]'hi).toNat : Int) == 239) = false := beq_eq_false_iff_ne.2 (by omega)
  have t8 : (((s[i]'hi).toNat : Int) == 237) = false := beq_eq_false_iff_ne.2 (by omega)
  have t9 : (((s[i]'hi).toNat : Int) == 240) = false := beq_eq_false_iff_ne.2 (by omega)
  have t10 : decide (241 ≤ ((s[i]'hi).toNat : Int)) = false := decide_eq_false (by omega)
  have t11 : decide (((s[i]'hi).toNat : Int) ≤ 243) = true := decide_eq_true (by omega)
  have t12 : (((s[i]'hi).toNat : Int) == 244) = false := beq_eq_false_iff_ne.2 (by omega)
  go_enter Try.func21, Try.ntmps21
  go_wp2
  go_ret
  exact ⟨rfl, rfl⟩

set_option maxRecDepth 100000 in
theorem seq_high (s : ByteArray) (i : Nat) (hi : i < s.size) (hs : s.size ≤ 1048576) (h1 : 245 ≤ ((s[i]'hi).toNat : Int)) (w : World) :
    Calls Try.prog 21 #[.string s, .int .i64 (i : Int)] w fun e w' => e = .returned (.int .i64 0) ∧ w' = w := by
  have t0 : decide (((s[i]'hi).toNat : Int) < 128) = false := decide_eq_false (by omega)
  have t1 : decide (194 ≤ ((s[i]'hi).toNat : Int)) = true := decide_eq_true (by omega)
  have t2 : decide (((s[i]'hi).toNat : Int) ≤ 223) = false := decide_eq_false (by omega)
  have t3 : (((s[i]'hi).toNat : Int) == 224) = false := beq_eq_false_iff_ne.2 (by omega)
  have t4 : decide (225 ≤ ((s[i]'hi).toNat : Int)) = true := decide_eq_true (by omega)
  have t5 : decide (((s[i]'hi).toNat : Int) ≤ 236) = false := decide_eq_false (by omega)
  have t6 : (((s[i]'hi).toNat : Int) == 238) = false := beq_eq_false_iff_ne.2 (by omega)
  have t7 : (((s[i]'hi).toNat : Int) == 239) = false := beq_eq_false_iff_ne.2 (by omega)
  have t8 : (((s[i]'hi).toNat : Int) == 237) = false := beq_eq_false_iff_ne.2 (by omega)
  have t9 : (((s[i]'hi).toNat : Int) == 240) = false := beq_eq_false_iff_ne.2 (by omega)
  have t10 : decide (241 ≤ ((s[i]'hi).toNat : Int)) = true := decide_eq_true (by omega)
  have t11 : decide (((s[i]'hi).toNat : Int) ≤ 243) = false := decide_eq_false (by omega)
  have t12 : (((s[i]'hi).toNat : Int) == 244) = false := beq_eq_false_iff_ne.2 (by omega)
  go_enter Try.func21, Try.ntmps21
  go_wp2
  go_ret
  exact ⟨rfl, rfl⟩

theorem cont_next (s : ByteArray) (i m : Nat) (h : ∀ j, 2 ≤ j → j < m → 128 ≤ bt s (i + j) ∧ bt s (i + j) ≤ 191) (h1 : 128 ≤ bt s (i + m)) (h2 : bt s (i + m) ≤ 191) :
    ∀ j, 2 ≤ j → j < m + 1 → 128 ≤ bt s (i + j) ∧ bt s (i + j) ≤ 191 := by
  intro j hj1 hj2
  by_cases hj : j < m
  · exact h j hj1 hj
  · obtain rfl : j = m := by omega
    exact ⟨h1, h2⟩

set_option maxHeartbeats 1000000 in
set_option maxRecDepth 100000 in
theorem seq_c2 (s : ByteArray) (i : Nat) (hi : i < s.size) (hs : s.size ≤ 1048576) (h1 : 194 ≤ ((s[i]'hi).toNat : Int)) (h2 : ((s[i]'hi).toNat : Int) ≤ 223) (hcls : Cls s i 2 128 191) (w : World) :
    Calls Try.prog 21 #[.string s, .int .i64 (i : Int)] w fun e w' => e = .returned (.int .i64 (sq s i : Nat)) ∧ w' = w := by
  obtain ⟨R, hR⟩ : ∃ R : Nat, sq s i = R := ⟨_, rfl⟩
  rw [hR]
  have HY : Hid (Ok s i 2 128 191 → 2 = R) := fun h => (hcls.1 h).symm.trans hR
  have HN : Hid (¬ Ok s i 2 128 191 → 0 = R) := fun h => (hcls.2 h).symm.trans hR
  clear hR hcls
  have t0 : decide (((s[i]'hi).toNat : Int) < 128) = false := decide_eq_false (by omega)
  have t1 : decide (194 ≤ ((s[i]'hi).toNat : Int)) = true := decide_eq_true (by omega)
  have t2 : decide (((s[i]'hi).toNat : Int) ≤ 223) = true := decide_eq_true (by omega)
  have t3 : (((s[i]'hi).toNat : Int) == 224) = false := beq_eq_false_iff_ne.2 (by omega)
  have t4 : decide (225 ≤ ((s[i]'hi).toNat : Int)) = false := decide_eq_false (by omega)
  have t5 : decide (((s[i]'hi).toNat : Int) ≤ 236) = true := decide_eq_true (by omega)
  have t6 : (((s[i]'hi).toNat : Int) == 238) = false := beq_eq_false_iff_ne.2 (by omega)
  have t7 : (((s[i]'hi).toNat : Int) == 239) = false := beq_eq_false_iff_ne.2 (by omega)
  have t8 : (((s[i]'hi).toNat : Int) == 237) = false := beq_eq_false_iff_ne.2 (by omega)
  have t9 : (((s[i]'hi).toNat : Int) == 240) = false := beq_eq_false_iff_ne.2 (by omega)
  have t10 : decide (241 ≤ ((s[i]'hi).toNat : Int)) = false := decide_eq_false (by omega)
  have t11 : decide (((s[i]'hi).toNat : Int) ≤ 243) = true := decide_eq_true (by omega)
  have t12 : (((s[i]'hi).toNat : Int) == 244) = false := beq_eq_false_iff_ne.2 (by omega)
  by_cases hn : i + 2 ≤ s.size
  · have hi1 : i + 1 < s.size := by omega
    by_cases hlo : ((s[i + 1]'hi1).toNat : Int) < 128
    · go_enter Try.func21, Try.ntmps21
      go_wp2
      go_ret
      exact ⟨ret_int (by have := HN.out (fun h => by have := h.2.1; rw [bi] at hlo; omega); omega), rfl⟩
    by_cases hhi : 191 < ((s[i + 1]'hi1).toNat : Int)
    · go_enter Try.func21, Try.ntmps21
      go_wp2
      go_ret
      exact ⟨ret_int (by have := HN.out (fun h => by have := h.2.2.1; rw [bi] at hhi; omega); omega), rfl⟩
    have blo : decide (((s[i + 1]'hi1).toNat : Int) < 128) = false := decide_eq_false hlo
    have bhi : decide (191 < ((s[i + 1]'hi1).toNat : Int)) = false := decide_eq_false hhi
    go_enter Try.func21, Try.ntmps21
    go_wp2
    go_loop [10] (fun k => ∃ m : Nat, 2 ≤ m ∧ m ≤ 2 ∧ k = .int .i64 (m : Int) ∧ Hid (∀ j, 2 ≤ j → j < m → 128 ≤ bt s (i + j) ∧ bt s (i + j) ≤ 191)) (fun k => 2 - (intOf k).toNat)
    case atStart => exact ⟨2, by omega, by omega, rfl, fun j h2 h3 => by omega⟩
    case round =>
      obtain ⟨m, hm2, hmn, rfl, HJ⟩ := hrel
      by_cases hlt : m < 2
      · exfalso; omega
      · go_wp2
        go_ret
        exact ⟨ret_int (by have := HY.out ⟨hn, by rw [bi] at hlo; omega, by rw [bi] at hhi; omega, fun j h2 h3 => HJ.out j h2 (by omega)⟩; omega), rfl⟩
  · go_enter Try.func21, Try.ntmps21
    go_wp2
    go_ret
    exact ⟨ret_int (by have := HN.out (fun h => hn h.1); omega), rfl⟩

set_option maxHeartbeats 1000000 in
set_option maxRecDepth 100000 in
theorem seq_e0 (s : ByteArray) (i : Nat) (hi : i < s.size) (hs : s.size ≤ 1048576) (h1 : 224 ≤ ((s[i]'hi).toNat : Int)) (h2 : ((s[i]'hi).toNat : Int) ≤ 224) (hcls : Cls s i 3 160 191) (w : World) :
    Calls Try.prog 21 #[.string s, .int .i64 (i : Int)] w fun e w' => e = .returned (.int .i64 (sq s i : Nat)) ∧ w' = w := by
  obtain ⟨R, hR⟩ : ∃ R : Nat, sq s i = R := ⟨_, rfl⟩
  rw [hR]
  have HY : Hid (Ok s i 3 160 191 → 3 = R) := fun h => (hcls.1 h).symm.trans hR
  have HN : Hid (¬ Ok s i 3 160 191 → 0 = R) := fun h => (hcls.2 h).symm.trans hR
  clear hR hcls
  have t0 : decide (((s[i]'hi).toNat : Int) < 128) = false := decide_eq_false (by omega)
  have t1 : decide (194 ≤ ((s[i]'hi).toNat : Int)) = true := decide_eq_true (by omega)
  have t2 : decide (((s[i]'hi).toNat : Int) ≤ 223) = false := decide_eq_false (by omega)
  have t3 : (((s[i]'hi).toNat : Int) == 224) = true := beq_iff_eq.2 (by omega)
  have t4 : decide (225 ≤ ((s[i]'hi).toNat : Int)) = false := decide_eq_false (by omega)
  have t5 : decide (((s[i]'hi).toNat : Int) ≤ 236) = true := decide_eq_true (by omega)
  have t6 : (((s[i]'hi).toNat : Int) == 238) = false := beq_eq_false_iff_ne.2 (by omega)
  have t7 : (((s[i]'hi).toNat : Int) == 239) = false := beq_eq_false_iff_ne.2 (by omega)
  have t8 : (((s[i]'hi).toNat : Int) == 237) = false := beq_eq_false_iff_ne.2 (by omega)
  have t9 : (((s[i]'hi).toNat : Int) == 240) = false := beq_eq_false_iff_ne.2 (by omega)
  have t10 : decide (241 ≤ ((s[i]'hi).toNat : Int)) = false := decide_eq_false (by omega)
  have t11 : decide (((s[i]'hi).toNat : Int) ≤ 243) = true := decide_eq_true (by omega)
  have t12 : (((s[i]'hi).toNat : Int) == 244) = false := beq_eq_false_iff_ne.2 (by omega)
  by_cases hn : i + 3 ≤ s.size
  · have hi1 : i + 1 < s.size := by omega
    by_cases hlo : ((s[i + 1]'hi1).toNat : Int) < 160
    · go_enter Try.func21, Try.ntmps21
      go_wp2
      go_ret
      exact ⟨ret_int (by have := HN.out (fun h => by have := h.2.1; rw [bi] at hlo; omega); omega), rfl⟩
    by_cases hhi : 191 < ((s[i + 1]'hi1).toNat : Int)
    · go_enter Try.func21, Try.ntmps21
      go_wp2
      go_ret
      exact ⟨ret_int (by have := HN.out (fun h => by have := h.2.2.1; rw [bi] at hhi; omega); omega), rfl⟩
    have blo : decide (((s[i + 1]'hi1).toNat : Int) < 160) = false := decide_eq_false hlo
    have bhi : decide (191 < ((s[i + 1]'hi1).toNat : Int)) = false := decide_eq_false hhi
    go_enter Try.func21, Try.ntmps21
    go_wp2
    go_loop [10] (fun k => ∃ m : Nat, 2 ≤ m ∧ m ≤ 3 ∧ k = .int .i64 (m : Int) ∧ Hid (∀ j, 2 ≤ j → j < m → 128 ≤ bt s (i + j) ∧ bt s (i + j) ≤ 191)) (fun k => 3 - (intOf k).toNat)
    case atStart => exact ⟨2, by omega, by omega, rfl, fun j h2 h3 => by omega⟩
    case round =>
      obtain ⟨m, hm2, hmn, rfl, HJ⟩ := hrel
      by_cases hlt : m < 3
      · have him : i + m < s.size := by omega
        by_cases hc1 : ((s[i + m]'him).toNat : Int) < 128
        · go_wp2
          go_ret
          exact ⟨ret_int (by have := HN.out (fun h => by have := h.2.2.2 m hm2 hlt; rw [bi] at hc1; omega); omega), rfl⟩
        by_cases hc2 : 191 < ((s[i + m]'him).toNat : Int)
        · go_wp2
          go_ret
          exact ⟨ret_int (by have := HN.out (fun h => by have := h.2.2.2 m hm2 hlt; rw [bi] at hc2; omega); omega), rfl⟩
        go_wp2
        go_round
        case rel => exact ⟨m + 1, by omega, by omega, by go_num, cont_next s i m HJ.out (by rw [bi] at hc1; omega) (by rw [bi] at hc2; omega)⟩
        case measure => simp [intOf]; omega
      · go_wp2
        go_ret
        exact ⟨ret_int (by have := HY.out ⟨hn, by rw [bi] at hlo; omega, by rw [bi] at hhi; omega, fun j h2 h3 => HJ.out j h2 (by omega)⟩; omega), rfl⟩
  · go_enter Try.func21, Try.ntmps21
    go_wp2
    go_ret
    exact ⟨ret_int (by have := HN.out (fun h => hn h.1); omega), rfl⟩

set_option maxHeartbeats 1000000 in
set_option maxRecDepth 100000 in
theorem seq_e1 (s : ByteArray) (i : Nat) (hi : i < s.size) (hs : s.size ≤ 1048576) (h1 : 225 ≤ ((s[i]'hi).toNat : Int)) (h2 : ((s[i]'hi).toNat : Int) ≤ 236) (hcls : Cls s i 3 128 191) (w : World) :
    Calls Try.prog 21 #[.string s, .int .i64 (i : Int)] w fun e w' => e = .returned (.int .i64 (sq s i : Nat)) ∧ w' = w := by
  obtain ⟨R, hR⟩ : ∃ R : Nat, sq s i = R := ⟨_, rfl⟩
  rw [hR]
  have HY : Hid (Ok s i 3 128 191 → 3 = R) := fun h => (hcls.1 h).symm.trans hR
  have HN : Hid (¬ Ok s i 3 128 191 → 0 = R) := fun h => (hcls.2 h).symm.trans hR
  clear hR hcls
  have t0 : decide (((s[i]'hi).toNat : Int) < 128) = false := decide_eq_false (by omega)
  have t1 : decide (194 ≤ ((s[i]'hi).toNat : Int)) = true := decide_eq_true (by omega)
  have t2 : decide (((s[i]'hi).toNat : Int) ≤ 223) = false := decide_eq_false (by omega)
  have t3 : (((s[i]'hi).toNat : Int) == 224) = false := beq_eq_false_iff_ne.2 (by omega)
  have t4 : decide (225 ≤ ((s[i]'hi).toNat : Int)) = true := decide_eq_true (by omega)
  have t5 : decide (((s[i]'hi).toNat : Int) ≤ 236) = true := decide_eq_true (by omega)
  have t6 : (((s[i]'hi).toNat : Int) == 238) = false := beq_eq_false_iff_ne.2 (by omega)
  have t7 : (((s[i]'hi).toNat : Int) == 239) = false := beq_eq_false_iff_ne.2 (by omega)
  have t8 : (((s[i]'hi).toNat : Int) == 237) = false := beq_eq_false_iff_ne.2 (by omega)
  have t9 : (((s[i]'hi).toNat : Int) == 240) = false := beq_eq_false_iff_ne.2 (by omega)
  have t10 : decide (241 ≤ ((s[i]'hi).toNat : Int)) = false := decide_eq_false (by omega)
  have t11 : decide (((s[i]'hi).toNat : Int) ≤ 243) = true := decide_eq_true (by omega)
  have t12 : (((s[i]'hi).toNat : Int) == 244) = false := beq_eq_false_iff_ne.2 (by omega)
  by_cases hn : i + 3 ≤ s.size
  · have hi1 : i + 1 < s.size := by omega
    by_cases hlo : ((s[i + 1]'hi1).toNat : Int) < 128
    · go_enter Try.func21, Try.ntmps21
      go_wp2
      go_ret
      exact ⟨ret_int (by have := HN.out (fun h => by have := h.2.1; rw [bi] at hlo; omega); omega), rfl⟩
    by_cases hhi : 191 < ((s[i + 1]'hi1).toNat : Int)
    · go_enter Try.func21, Try.ntmps21
      go_wp2
      go_ret
      exact ⟨ret_int (by have := HN.out (fun h => by have := h.2.2.1; rw [bi] at hhi; omega); omega), rfl⟩
    have blo : decide (((s[i + 1]'hi1).toNat : Int) < 128) = false := decide_eq_false hlo
    have bhi : decide (191 < ((s[i + 1]'hi1).toNat : Int)) = false := decide_eq_false hhi
    go_enter Try.func21, Try.ntmps21
    go_wp2
    go_loop [10] (fun k => ∃ m : Nat, 2 ≤ m ∧ m ≤ 3 ∧ k = .int .i64 (m : Int) ∧ Hid (∀ j, 2 ≤ j → j < m → 128 ≤ bt s (i + j) ∧ bt s (i + j) ≤ 191)) (fun k => 3 - (intOf k).toNat)
    case atStart => exact ⟨2, by omega, by omega, rfl, fun j h2 h3 => by omega⟩
    case round =>
      obtain ⟨m, hm2, hmn, rfl, HJ⟩ := hrel
      by_cases hlt : m < 3
      · have him : i + m < s.size := by omega
        by_cases hc1 : ((s[i + m]'him).toNat : Int) < 128
        · go_wp2
          go_ret
          exact ⟨ret_int (by have := HN.out (fun h => by have := h.2.2.2 m hm2 hlt; rw [bi] at hc1; omega); omega), rfl⟩
        by_cases hc2 : 191 < ((s[i + m]'him).toNat : Int)
        · go_wp2
          go_ret
          exact ⟨ret_int (by have := HN.out (fun h => by have := h.2.2.2 m hm2 hlt; rw [bi] at hc2; omega); omega), rfl⟩
        go_wp2
        go_round
        case rel => exact ⟨m + 1, by omega, by omega, by go_num, cont_next s i m HJ.out (by rw [bi] at hc1; omega) (by rw [bi] at hc2; omega)⟩
        case measure => simp [intOf]; omega
      · go_wp2
        go_ret
        exact ⟨ret_int (by have := HY.out ⟨hn, by rw [bi] at hlo; omega, by rw [bi] at hhi; omega, fun j h2 h3 => HJ.out j h2 (by omega)⟩; omega), rfl⟩
  · go_enter Try.func21, Try.ntmps21
    go_wp2
    go_ret
    exact ⟨ret_int (by have := HN.out (fun h => hn h.1); omega), rfl⟩

set_option maxHeartbeats 1000000 in
set_option maxRecDepth 100000 in
theorem seq_ee (s : ByteArray) (i : Nat) (hi : i < s.size) (hs : s.size ≤ 1048576) (h1 : 238 ≤ ((s[i]'hi).toNat : Int)) (h2 : ((s[i]'hi).toNat : Int) ≤ 238) (hcls : Cls s i 3 128 191) (w : World) :
    Calls Try.prog 21 #[.string s, .int .i64 (i : Int)] w fun e w' => e = .returned (.int .i64 (sq s i : Nat)) ∧ w' = w := by
  obtain ⟨R, hR⟩ : ∃ R : Nat, sq s i = R := ⟨_, rfl⟩
  rw [hR]
  have HY : Hid (Ok s i 3 128 191 → 3 = R) := fun h => (hcls.1 h).symm.trans hR
  have HN : Hid (¬ Ok s i 3 128 191 → 0 = R) := fun h => (hcls.2 h).symm.trans hR
  clear hR hcls
  have t0 : decide (((s[i]'hi).toNat : Int) < 128) = false := decide_eq_false (by omega)
  have t1 : decide (194 ≤ ((s[i]'hi).toNat : Int)) = true := decide_eq_true (by omega)
  have t2 : decide (((s[i]'hi).toNat : Int) ≤ 223) = false := decide_eq_false (by omega)
  have t3 : (((s[i]'hi).toNat : Int) == 224) = false := beq_eq_false_iff_ne.2 (by omega)
  have t4 : decide (225 ≤ ((s[i]'hi).toNat : Int)) = true := decide_eq_true (by omega)
  have t5 : decide (((s[i]'hi).toNat : Int) ≤ 236) = false := decide_eq_false (by omega)
  have t6 : (((s[i]'hi).toNat : Int) == 238) = true := beq_iff_eq.2 (by omega)
  have t7 : (((s[i]'hi).toNat : Int) == 239) = false := beq_eq_false_iff_ne.2 (by omega)
  have t8 : (((s[i]'hi).toNat : Int) == 237) = false := beq_eq_false_iff_ne.2 (by omega)
  have t9 : (((s[i]'hi).toNat : Int) == 240) = false := beq_eq_false_iff_ne.2 (by omega)
  have t10 : decide (241 ≤ ((s[i]'hi).toNat : Int)) = false := decide_eq_false (by omega)
  have t11 : decide (((s[i]'hi).toNat : Int) ≤ 243) = true := decide_eq_true (by omega)
  have t12 : (((s[i]'hi).toNat : Int) == 244) = false := beq_eq_false_iff_ne.2 (by omega)
  by_cases hn : i + 3 ≤ s.size
  · have hi1 : i + 1 < s.size := by omega
    by_cases hlo : ((s[i + 1]'hi1).toNat : Int) < 128
    · go_enter Try.func21, Try.ntmps21
      go_wp2
      go_ret
      exact ⟨ret_int (by have := HN.out (fun h => by have := h.2.1; rw [bi] at hlo; omega); omega), rfl⟩
    by_cases hhi : 191 < ((s[i + 1]'hi1).toNat : Int)
    · go_enter Try.func21, Try.ntmps21
      go_wp2
      go_ret
      exact ⟨ret_int (by have := HN.out (fun h => by have := h.2.2.1; rw [bi] at hhi; omega); omega), rfl⟩
    have blo : decide (((s[i + 1]'hi1).toNat : Int) < 128) = false := decide_eq_false hlo
    have bhi : decide (191 < ((s[i + 1]'hi1).toNat : Int)) = false := decide_eq_false hhi
    go_enter Try.func21, Try.ntmps21
    go_wp2
    go_loop [10] (fun k => ∃ m : Nat, 2 ≤ m ∧ m ≤ 3 ∧ k = .int .i64 (m : Int) ∧ Hid (∀ j, 2 ≤ j → j < m → 128 ≤ bt s (i + j) ∧ bt s (i + j) ≤ 191)) (fun k => 3 - (intOf k).toNat)
    case atStart => exact ⟨2, by omega, by omega, rfl, fun j h2 h3 => by omega⟩
    case round =>
      obtain ⟨m, hm2, hmn, rfl, HJ⟩ := hrel
      by_cases hlt : m < 3
      · have him : i + m < s.size := by omega
        by_cases hc1 : ((s[i + m]'him).toNat : Int) < 128
        · go_wp2
          go_ret
          exact ⟨ret_int (by have := HN.out (fun h => by have := h.2.2.2 m hm2 hlt; rw [bi] at hc1; omega); omega), rfl⟩
        by_cases hc2 : 191 < ((s[i + m]'him).toNat : Int)
        · go_wp2
          go_ret
          exact ⟨ret_int (by have := HN.out (fun h => by have := h.2.2.2 m hm2 hlt; rw [bi] at hc2; omega); omega), rfl⟩
        go_wp2
        go_round
        case rel => exact ⟨m + 1, by omega, by omega, by go_num, cont_next s i m HJ.out (by rw [bi] at hc1; omega) (by rw [bi] at hc2; omega)⟩
        case measure => simp [intOf]; omega
      · go_wp2
        go_ret
        exact ⟨ret_int (by have := HY.out ⟨hn, by rw [bi] at hlo; omega, by rw [bi] at hhi; omega, fun j h2 h3 => HJ.out j h2 (by omega)⟩; omega), rfl⟩
  · go_enter Try.func21, Try.ntmps21
    go_wp2
    go_ret
    exact ⟨ret_int (by have := HN.out (fun h => hn h.1); omega), rfl⟩

set_option maxHeartbeats 1000000 in
set_option maxRecDepth 100000 in
theorem seq_ef (s : ByteArray) (i : Nat) (hi : i < s.size) (hs : s.size ≤ 1048576) (h1 : 239 ≤ ((s[i]'hi).toNat : Int)) (h2 : ((s[i]'hi).toNat : Int) ≤ 239) (hcls : Cls s i 3 128 191) (w : World) :
    Calls Try.prog 21 #[.string s, .int .i64 (i : Int)] w fun e w' => e = .returned (.int .i64 (sq s i : Nat)) ∧ w' = w := by
  obtain ⟨R, hR⟩ : ∃ R : Nat, sq s i = R := ⟨_, rfl⟩
  rw [hR]
  have HY : Hid (Ok s i 3 128 191 → 3 = R) := fun h => (hcls.1 h).symm.trans hR
  have HN : Hid (¬ Ok s i 3 128 191 → 0 = R) := fun h => (hcls.2 h).symm.trans hR
  clear hR hcls
  have t0 : decide (((s[i]'hi).toNat : Int) < 128) = false := decide_eq_false (by omega)
  have t1 : decide (194 ≤ ((s[i]'hi).toNat : Int)) = true := decide_eq_true (by omega)
  have t2 : decide (((s[i]'hi).toNat : Int) ≤ 223) = false := decide_eq_false (by omega)
  have t3 : (((s[i]'hi).toNat : Int) == 224) = false := beq_eq_false_iff_ne.2 (by omega)
  have t4 : decide (225 ≤ ((s[i]'hi).toNat : Int)) = true := decide_eq_true (by omega)
  have t5 : decide (((s[i]'hi).toNat : Int) ≤ 236) = false := decide_eq_false (by omega)
  have t6 : (((s[i]'hi).toNat : Int) == 238) = false := beq_eq_false_iff_ne.2 (by omega)
  have t7 : (((s[i]'hi).toNat : Int) == 239) = true := beq_iff_eq.2 (by omega)
  have t8 : (((s[i]'hi).toNat : Int) == 237) = false := beq_eq_false_iff_ne.2 (by omega)
  have t9 : (((s[i]'hi).toNat : Int) == 240) = false := beq_eq_false_iff_ne.2 (by omega)
  have t10 : decide (241 ≤ ((s[i]'hi).toNat : Int)) = false := decide_eq_false (by omega)
  have t11 : decide (((s[i]'hi).toNat : Int) ≤ 243) = true := decide_eq_true (by omega)
  have t12 : (((s[i]'hi).toNat : Int) == 244) = false := beq_eq_false_iff_ne.2 (by omega)
  by_cases hn : i + 3 ≤ s.size
  · have hi1 : i + 1 < s.size := by omega
    by_cases hlo : ((s[i + 1]'hi1).toNat : Int) < 128
    · go_enter Try.func21, Try.ntmps21
      go_wp2
      go_ret
      exact ⟨ret_int (by have := HN.out (fun h => by have := h.2.1; rw [bi] at hlo; omega); omega), rfl⟩
    by_cases hhi : 191 < ((s[i + 1]'hi1).toNat : Int)
    · go_enter Try.func21, Try.ntmps21
      go_wp2
      go_ret
      exact ⟨ret_int (by have := HN.out (fun h => by have := h.2.2.1; rw [bi] at hhi; omega); omega), rfl⟩
    have blo : decide (((s[i + 1]'hi1).toNat : Int) < 128) = false := decide_eq_false hlo
    have bhi : decide (191 < ((s[i + 1]'hi1).toNat : Int)) = false := decide_eq_false hhi
    go_enter Try.func21, Try.ntmps21
    go_wp2
    go_loop [10] (fun k => ∃ m : Nat, 2 ≤ m ∧ m ≤ 3 ∧ k = .int .i64 (m : Int) ∧ Hid (∀ j, 2 ≤ j → j < m → 128 ≤ bt s (i + j) ∧ bt s (i + j) ≤ 191)) (fun k => 3 - (intOf k).toNat)
    case atStart => exact ⟨2, by omega, by omega, rfl, fun j h2 h3 => by omega⟩
    case round =>
      obtain ⟨m, hm2, hmn, rfl, HJ⟩ := hrel
      by_cases hlt : m < 3
      · have him : i + m < s.size := by omega
        by_cases hc1 : ((s[i + m]'him).toNat : Int) < 128
        · go_wp2
          go_ret
          exact ⟨ret_int (by have := HN.out (fun h => by have := h.2.2.2 m hm2 hlt; rw [bi] at hc1; omega); omega), rfl⟩
        by_cases hc2 : 191 < ((s[i + m]'him).toNat : Int)
        · go_wp2
          go_ret
          exact ⟨ret_int (by have := HN.out (fun h => by have := h.2.2.2 m hm2 hlt; rw [bi] at hc2; omega); omega), rfl⟩
        go_wp2
        go_round
        case rel => exact ⟨m + 1, by omega, by omega, by go_num, cont_next s i m HJ.out (by rw [bi] at hc1; omega) (by rw [bi] at hc2; omega)⟩
        case measure => simp [intOf]; omega
      · go_wp2
        go_ret
        exact ⟨ret_int (by have := HY.out ⟨hn, by rw [bi] at hlo; omega, by rw [bi] at hhi; omega, fun j h2 h3 => HJ.out j h2 (by omega)⟩; omega), rfl⟩
  · go_enter Try.func21, Try.ntmps21
    go_wp2
    go_ret
    exact ⟨ret_int (by have := HN.out (fun h => hn h.1); omega), rfl⟩

set_option maxHeartbeats 1000000 in
set_option maxRecDepth 100000 in
theorem seq_ed (s : ByteArray) (i : Nat) (hi : i < s.size) (hs : s.size ≤ 1048576) (h1 : 237 ≤ ((s[i]'hi).toNat : Int)) (h2 : ((s[i]'hi).toNat : Int) ≤ 237) (hcls : Cls s i 3 128 159) (w : World) :
    Calls Try.prog 21 #[.string s, .int .i64 (i : Int)] w fun e w' => e = .returned (.int .i64 (sq s i : Nat)) ∧ w' = w := by
  obtain ⟨R, hR⟩ : ∃ R : Nat, sq s i = R := ⟨_, rfl⟩
  rw [hR]
  have HY : Hid (Ok s i 3 128 159 → 3 = R) := fun h => (hcls.1 h).symm.trans hR
  have HN : Hid (¬ Ok s i 3 128 159 → 0 = R) := fun h => (hcls.2 h).symm.trans hR
  clear hR hcls
  have t0 : decide (((s[i]'hi).toNat : Int) < 128) = false := decide_eq_false (by omega)
  have t1 : decide (194 ≤ ((s[i]'hi).toNat : Int)) = true := decide_eq_true (by omega)
  have t2 : decide (((s[i]'hi).toNat : Int) ≤ 223) = false := decide_eq_false (by omega)
  have t3 : (((s[i]'hi).toNat : Int) == 224) = false := beq_eq_false_iff_ne.2 (by omega)
  have t4 : decide (225 ≤ ((s[i]'hi).toNat : Int)) = true := decide_eq_true (by omega)
  have t5 : decide (((s[i]'hi).toNat : Int) ≤ 236) = false := decide_eq_false (by omega)
  have t6 : (((s[i]'hi).toNat : Int) == 238) = false := beq_eq_false_iff_ne.2 (by omega)
  have t7 : (((s[i]'hi).toNat : Int) == 239) = false := beq_eq_false_iff_ne.2 (by omega)
  have t8 : (((s[i]'hi).toNat : Int) == 237) = true := beq_iff_eq.2 (by omega)
  have t9 : (((s[i]'hi).toNat : Int) == 240) = false := beq_eq_false_iff_ne.2 (by omega)
  have t10 : decide (241 ≤ ((s[i]'hi).toNat : Int)) = false := decide_eq_false (by omega)
  have t11 : decide (((s[i]'hi).toNat : Int) ≤ 243) = true := decide_eq_true (by omega)
  have t12 : (((s[i]'hi).toNat : Int) == 244) = false := beq_eq_false_iff_ne.2 (by omega)
  by_cases hn : i + 3 ≤ s.size
  · have hi1 : i + 1 < s.size := by omega
    by_cases hlo : ((s[i + 1]'hi1).toNat : Int) < 128
    · go_enter Try.func21, Try.ntmps21
      go_wp2
      go_ret
      exact ⟨ret_int (by have := HN.out (fun h => by have := h.2.1; rw [bi] at hlo; omega); omega), rfl⟩
    by_cases hhi : 159 < ((s[i + 1]'hi1).toNat : Int)
    · go_enter Try.func21, Try.ntmps21
      go_wp2
      go_ret
      exact ⟨ret_int (by have := HN.out (fun h => by have := h.2.2.1; rw [bi] at hhi; omega); omega), rfl⟩
    have blo : decide (((s[i + 1]'hi1).toNat : Int) < 128) = false := decide_eq_false hlo
    have bhi : decide (159 < ((s[i + 1]'hi1).toNat : Int)) = false := decide_eq_false hhi
    go_enter Try.func21, Try.ntmps21
    go_wp2
    go_loop [10] (fun k => ∃ m : Nat, 2 ≤ m ∧ m ≤ 3 ∧ k = .int .i64 (m : Int) ∧ Hid (∀ j, 2 ≤ j → j < m → 128 ≤ bt s (i + j) ∧ bt s (i + j) ≤ 191)) (fun k => 3 - (intOf k).toNat)
    case atStart => exact ⟨2, by omega, by omega, rfl, fun j h2 h3 => by omega⟩
    case round =>
      obtain ⟨m, hm2, hmn, rfl, HJ⟩ := hrel
      by_cases hlt : m < 3
      · have him : i + m < s.size := by omega
        by_cases hc1 : ((s[i + m]'him).toNat : Int) < 128
        · go_wp2
          go_ret
          exact ⟨ret_int (by have := HN.out (fun h => by have := h.2.2.2 m hm2 hlt; rw [bi] at hc1; omega); omega), rfl⟩
        by_cases hc2 : 191 < ((s[i + m]'him).toNat : Int)
        · go_wp2
          go_ret
          exact ⟨ret_int (by have := HN.out (fun h => by have := h.2.2.2 m hm2 hlt; rw [bi] at hc2; omega); omega), rfl⟩
        go_wp2
        go_round
        case rel => exact ⟨m + 1, by omega, by omega, by go_num, cont_next s i m HJ.out (by rw [bi] at hc1; omega) (by rw [bi] at hc2; omega)⟩
        case measure => simp [intOf]; omega
      · go_wp2
        go_ret
        exact ⟨ret_int (by have := HY.out ⟨hn, by rw [bi] at hlo; omega, by rw [bi] at hhi; omega, fun j h2 h3 => HJ.out j h2 (by omega)⟩; omega), rfl⟩
  · go_enter Try.func21, Try.ntmps21
    go_wp2
    go_ret
    exact ⟨ret_int (by have := HN.out (fun h => hn h.1); omega), rfl⟩

set_option maxHeartbeats 1000000 in
set_option maxRecDepth 100000 in
theorem seq_f0 (s : ByteArray) (i : Nat) (hi : i < s.size) (hs : s.size ≤ 1048576) (h1 : 240 ≤ ((s[i]'hi).toNat : Int)) (h2 : ((s[i]'hi).toNat : Int) ≤ 240) (hcls : Cls s i 4 144 191) (w : World) :
    Calls Try.prog 21 #[.string s, .int .i64 (i : Int)] w fun e w' => e = .returned (.int .i64 (sq s i : Nat)) ∧ w' = w := by
  obtain ⟨R, hR⟩ : ∃ R : Nat, sq s i = R := ⟨_, rfl⟩
  rw [hR]
  have HY : Hid (Ok s i 4 144 191 → 4 = R) := fun h => (hcls.1 h).symm.trans hR
  have HN : Hid (¬ Ok s i 4 144 191 → 0 = R) := fun h => (hcls.2 h).symm.trans hR
  clear hR hcls
  have t0 : decide (((s[i]'hi).toNat : Int) < 128) = false := decide_eq_false (by omega)
  have t1 : decide (194 ≤ ((s[i]'hi).toNat : Int)) = true := decide_eq_true (by omega)
  have t2 : decide (((s[i]'hi).toNat : Int) ≤ 223) = false := decide_eq_false (by omega)
  have t3 : (((s[i]'hi).toNat : Int) == 224) = false := beq_eq_false_iff_ne.2 (by omega)
  have t4 : decide (225 ≤ ((s[i]'hi).toNat : Int)) = true := decide_eq_true (by omega)
  have t5 : decide (((s[i]'hi).toNat : Int) ≤ 236) = false := decide_eq_false (by omega)
  have t6 : (((s[i]'hi).toNat : Int) == 238) = false := beq_eq_false_iff_ne.2 (by omega)
  have t7 : (((s[i]'hi).toNat : Int) == 239) = false := beq_eq_false_iff_ne.2 (by omega)
  have t8 : (((s[i]'hi).toNat : Int) == 237) = false := beq_eq_false_iff_ne.2 (by omega)
  have t9 : (((s[i]'hi).toNat : Int) == 240) = true := beq_iff_eq.2 (by omega)
  have t10 : decide (241 ≤ ((s[i]'hi).toNat : Int)) = false := decide_eq_false (by omega)
  have t11 : decide (((s[i]'hi).toNat : Int) ≤ 243) = true := decide_eq_true (by omega)
  have t12 : (((s[i]'hi).toNat : Int) == 244) = false := beq_eq_false_iff_ne.2 (by omega)
  by_cases hn : i + 4 ≤ s.size
  · have hi1 : i + 1 < s.size := by omega
    by_cases hlo : ((s[i + 1]'hi1).toNat : Int) < 144
    · go_enter Try.func21, Try.ntmps21
      go_wp2
      go_ret
      exact ⟨ret_int (by have := HN.out (fun h => by have := h.2.1; rw [bi] at hlo; omega); omega), rfl⟩
    by_cases hhi : 191 < ((s[i + 1]'hi1).toNat : Int)
    · go_enter Try.func21, Try.ntmps21
      go_wp2
      go_ret
      exact ⟨ret_int (by have := HN.out (fun h => by have := h.2.2.1; rw [bi] at hhi; omega); omega), rfl⟩
    have blo : decide (((s[i + 1]'hi1).toNat : Int) < 144) = false := decide_eq_false hlo
    have bhi : decide (191 < ((s[i + 1]'hi1).toNat : Int)) = false := decide_eq_false hhi
    go_enter Try.func21, Try.ntmps21
    go_wp2
    go_loop [10] (fun k => ∃ m : Nat, 2 ≤ m ∧ m ≤ 4 ∧ k = .int .i64 (m : Int) ∧ Hid (∀ j, 2 ≤ j → j < m → 128 ≤ bt s (i + j) ∧ bt s (i + j) ≤ 191)) (fun k => 4 - (intOf k).toNat)
    case atStart => exact ⟨2, by omega, by omega, rfl, fun j h2 h3 => by omega⟩
    case round =>
      obtain ⟨m, hm2, hmn, rfl, HJ⟩ := hrel
      by_cases hlt : m < 4
      · have him : i + m < s.size := by omega
        by_cases hc1 : ((s[i + m]'him).toNat : Int) < 128
        · go_wp2
          go_ret
          exact ⟨ret_int (by have := HN.out (fun h => by have := h.2.2.2 m hm2 hlt; rw [bi] at hc1; omega); omega), rfl⟩
        by_cases hc2 : 191 < ((s[i + m]'him).toNat : Int)
        · go_wp2
          go_ret
          exact ⟨ret_int (by have := HN.out (fun h => by have := h.2.2.2 m hm2 hlt; rw [bi] at hc2; omega); omega), rfl⟩
        go_wp2
        go_round
        case rel => exact ⟨m + 1, by omega, by omega, by go_num, cont_next s i m HJ.out (by rw [bi] at hc1; omega) (by rw [bi] at hc2; omega)⟩
        case measure => simp [intOf]; omega
      · go_wp2
        go_ret
        exact ⟨ret_int (by have := HY.out ⟨hn, by rw [bi] at hlo; omega, by rw [bi] at hhi; omega, fun j h2 h3 => HJ.out j h2 (by omega)⟩; omega), rfl⟩
  · go_enter Try.func21, Try.ntmps21
    go_wp2
    go_ret
    exact ⟨ret_int (by have := HN.out (fun h => hn h.1); omega), rfl⟩

set_option maxHeartbeats 1000000 in
set_option maxRecDepth 100000 in
theorem seq_f1 (s : ByteArray) (i : Nat) (hi : i < s.size) (hs : s.size ≤ 1048576) (h1 : 241 ≤ ((s[i]'hi).toNat : Int)) (h2 : ((s[i]'hi).toNat : Int) ≤ 243) (hcls : Cls s i 4 128 191) (w : World) :
    Calls Try.prog 21 #[.string s, .int .i64 (i : Int)] w fun e w' => e = .returned (.int .i64 (sq s i : Nat)) ∧ w' = w := by
  obtain ⟨R, hR⟩ : ∃ R : Nat, sq s i = R := ⟨_, rfl⟩
  rw [hR]
  have HY : Hid (Ok s i 4 128 191 → 4 = R) := fun h => (hcls.1 h).symm.trans hR
  have HN : Hid (¬ Ok s i 4 128 191 → 0 = R) := fun h => (hcls.2 h).symm.trans hR
  clear hR hcls
  have t0 : decide (((s[i]'hi).toNat : Int) < 128) = false := decide_eq_false (by omega)
  have t1 : decide (194 ≤ ((s[i]'hi).toNat : Int)) = true := decide_eq_true (by omega)
  have t2 : decide (((s[i]'hi).toNat : Int) ≤ 223) = false := decide_eq_false (by omega)
  have t3 : (((s[i]'hi).toNat : Int) == 224) = false := beq_eq_false_iff_ne.2 (by omega)
  have t4 : decide (225 ≤ ((s[i]'hi).toNat : Int)) = true := decide_eq_true (by omega)
  have t5 : decide (((s[i]'hi).toNat : Int) ≤ 236) = false := decide_eq_false (by omega)
  have t6 : (((s[i]'hi).toNat : Int) == 238) = false := beq_eq_false_iff_ne.2 (by omega)
  have t7 : (((s[i]'hi).toNat : Int) == 239) = false := beq_eq_false_iff_ne.2 (by omega)
  have t8 : (((s[i]'hi).toNat : Int) == 237) = false := beq_eq_false_iff_ne.2 (by omega)
  have t9 : (((s[i]'hi).toNat : Int) == 240) = false := beq_eq_false_iff_ne.2 (by omega)
  have t10 : decide (241 ≤ ((s[i]'hi).toNat : Int)) = true := decide_eq_true (by omega)
  have t11 : decide (((s[i]'hi).toNat : Int) ≤ 243) = true := decide_eq_true (by omega)
  have t12 : (((s[i]'hi).toNat : Int) == 244) = false := beq_eq_false_iff_ne.2 (by omega)
  by_cases hn : i + 4 ≤ s.size
  · have hi1 : i + 1 < s.size := by omega
    by_cases hlo : ((s[i + 1]'hi1).toNat : Int) < 128
    · go_enter Try.func21, Try.ntmps21
      go_wp2
      go_ret
      exact ⟨ret_int (by have := HN.out (fun h => by have := h.2.1; rw [bi] at hlo; omega); omega), rfl⟩
    by_cases hhi : 191 < ((s[i + 1]'hi1).toNat : Int)
    · go_enter Try.func21, Try.ntmps21
      go_wp2
      go_ret
      exact ⟨ret_int (by have := HN.out (fun h => by have := h.2.2.1; rw [bi] at hhi; omega); omega), rfl⟩
    have blo : decide (((s[i + 1]'hi1).toNat : Int) < 128) = false := decide_eq_false hlo
    have bhi : decide (191 < ((s[i + 1]'hi1).toNat : Int)) = false := decide_eq_false hhi
    go_enter Try.func21, Try.ntmps21
    go_wp2
    go_loop [10] (fun k => ∃ m : Nat, 2 ≤ m ∧ m ≤ 4 ∧ k = .int .i64 (m : Int) ∧ Hid (∀ j, 2 ≤ j → j < m → 128 ≤ bt s (i + j) ∧ bt s (i + j) ≤ 191)) (fun k => 4 - (intOf k).toNat)
    case atStart => exact ⟨2, by omega, by omega, rfl, fun j h2 h3 => by omega⟩
    case round =>
      obtain ⟨m, hm2, hmn, rfl, HJ⟩ := hrel
      by_cases hlt : m < 4
      · have him : i + m < s.size := by omega
        by_cases hc1 : ((s[i + m]'him).toNat : Int) < 128
        · go_wp2
          go_ret
          exact ⟨ret_int (by have := HN.out (fun h => by have := h.2.2.2 m hm2 hlt; rw [bi] at hc1; omega); omega), rfl⟩
        by_cases hc2 : 191 < ((s[i + m]'him).toNat : Int)
        · go_wp2
          go_ret
          exact ⟨ret_int (by have := HN.out (fun h => by have := h.2.2.2 m hm2 hlt; rw [bi] at hc2; omega); omega), rfl⟩
        go_wp2
        go_round
        case rel => exact ⟨m + 1, by omega, by omega, by go_num, cont_next s i m HJ.out (by rw [bi] at hc1; omega) (by rw [bi] at hc2; omega)⟩
        case measure => simp [intOf]; omega
      · go_wp2
        go_ret
        exact ⟨ret_int (by have := HY.out ⟨hn, by rw [bi] at hlo; omega, by rw [bi] at hhi; omega, fun j h2 h3 => HJ.out j h2 (by omega)⟩; omega), rfl⟩
  · go_enter Try.func21, Try.ntmps21
    go_wp2
    go_ret
    exact ⟨ret_int (by have := HN.out (fun h => hn h.1); omega), rfl⟩

set_option maxHeartbeats 1000000 in
set_option maxRecDepth 100000 in
theorem seq_f4 (s : ByteArray) (i : Nat) (hi : i < s.size) (hs : s.size ≤ 1048576) (h1 : 244 ≤ ((s[i]'hi).toNat : Int)) (h2 : ((s[i]'hi).toNat : Int) ≤ 244) (hcls : Cls s i 4 128 143) (w : World) :
    Calls Try.prog 21 #[.string s, .int .i64 (i : Int)] w fun e w' => e = .returned (.int .i64 (sq s i : Nat)) ∧ w' = w := by
  obtain ⟨R, hR⟩ : ∃ R : Nat, sq s i = R := ⟨_, rfl⟩
  rw [hR]
  have HY : Hid (Ok s i 4 128 143 → 4 = R) := fun h => (hcls.1 h).symm.trans hR
  have HN : Hid (¬ Ok s i 4 128 143 → 0 = R) := fun h => (hcls.2 h).symm.trans hR
  clear hR hcls
  have t0 : decide (((s[i]'hi).toNat : Int) < 128) = false := decide_eq_false (by omega)
  have t1 : decide (194 ≤ ((s[i]'hi).toNat : Int)) = true := decide_eq_true (by omega)
  have t2 : decide (((s[i]'hi).toNat : Int) ≤ 223) = false := decide_eq_false (by omega)
  have t3 : (((s[i]'hi).toNat : Int) == 224) = false := beq_eq_false_iff_ne.2 (by omega)
  have t4 : decide (225 ≤ ((s[i]'hi).toNat : Int)) = true := decide_eq_true (by omega)
  have t5 : decide (((s[i]'hi).toNat : Int) ≤ 236) = false := decide_eq_false (by omega)
  have t6 : (((s[i]'hi).toNat : Int) == 238) = false := beq_eq_false_iff_ne.2 (by omega)
  have t7 : (((s[i]'hi).toNat : Int) == 239) = false := beq_eq_false_iff_ne.2 (by omega)
  have t8 : (((s[i]'hi).toNat : Int) == 237) = false := beq_eq_false_iff_ne.2 (by omega)
  have t9 : (((s[i]'hi).toNat : Int) == 240) = false := beq_eq_false_iff_ne.2 (by omega)
  have t10 : decide (241 ≤ ((s[i]'hi).toNat : Int)) = true := decide_eq_true (by omega)
  have t11 : decide (((s[i]'hi).toNat : Int) ≤ 243) = false := decide_eq_false (by omega)
  have t12 : (((s[i]'hi).toNat : Int) == 244) = true := beq_iff_eq.2 (by omega)
  by_cases hn : i + 4 ≤ s.size
  · have hi1 : i + 1 < s.size := by omega
    by_cases hlo : ((s[i + 1]'hi1).toNat : Int) < 128
    · go_enter Try.func21, Try.ntmps21
      go_wp2
      go_ret
      exact ⟨ret_int (by have := HN.out (fun h => by have := h.2.1; rw [bi] at hlo; omega); omega), rfl⟩
    by_cases hhi : 143 < ((s[i + 1]'hi1).toNat : Int)
    · go_enter Try.func21, Try.ntmps21
      go_wp2
      go_ret
      exact ⟨ret_int (by have := HN.out (fun h => by have := h.2.2.1; rw [bi] at hhi; omega); omega), rfl⟩
    have blo : decide (((s[i + 1]'hi1).toNat : Int) < 128) = false := decide_eq_false hlo
    have bhi : decide (143 < ((s[i + 1]'hi1).toNat : Int)) = false := decide_eq_false hhi
    go_enter Try.func21, Try.ntmps21
    go_wp2
    go_loop [10] (fun k => ∃ m : Nat, 2 ≤ m ∧ m ≤ 4 ∧ k = .int .i64 (m : Int) ∧ Hid (∀ j, 2 ≤ j → j < m → 128 ≤ bt s (i + j) ∧ bt s (i + j) ≤ 191)) (fun k => 4 - (intOf k).toNat)
    case atStart => exact ⟨2, by omega, by omega, rfl, fun j h2 h3 => by omega⟩
    case round =>
      obtain ⟨m, hm2, hmn, rfl, HJ⟩ := hrel
      by_cases hlt : m < 4
      · have him : i + m < s.size := by omega
        by_cases hc1 : ((s[i + m]'him).toNat : Int) < 128
        · go_wp2
          go_ret
          exact ⟨ret_int (by have := HN.out (fun h => by have := h.2.2.2 m hm2 hlt; rw [bi] at hc1; omega); omega), rfl⟩
        by_cases hc2 : 191 < ((s[i + m]'him).toNat : Int)
        · go_wp2
          go_ret
          exact ⟨ret_int (by have := HN.out (fun h => by have := h.2.2.2 m hm2 hlt; rw [bi] at hc2; omega); omega), rfl⟩
        go_wp2
        go_round
        case rel => exact ⟨m + 1, by omega, by omega, by go_num, cont_next s i m HJ.out (by rw [bi] at hc1; omega) (by rw [bi] at hc2; omega)⟩
        case measure => simp [intOf]; omega
      · go_wp2
        go_ret
        exact ⟨ret_int (by have := HY.out ⟨hn, by rw [bi] at hlo; omega, by rw [bi] at hhi; omega, fun j h2 h3 => HJ.out j h2 (by omega)⟩; omega), rfl⟩
  · go_enter Try.func21, Try.ntmps21
    go_wp2
    go_ret
    exact ⟨ret_int (by have := HN.out (fun h => hn h.1); omega), rfl⟩
end Go.Proofs.Qxb6603968a.WalkSeq
