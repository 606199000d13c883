/-
  THE WALKS OF zzUTF16Units AND OF THE LAW OVER IT.
-/
import Derived.Test.Qxb6603968aWalkSeq
namespace Go.Proofs.Qxb6603968a.LawUtf
open Go.ChangeShapes Go.WideShapes Go.ChangeAt Go.RowKit
open Go.Proofs.Qxb6603968a.WalkNum Go.Proofs.Qxb6603968a.Utf Go.Proofs.Qxb6603968a.WalkUtf Go.Proofs.Qxb6603968a.WalkSeq
set_option linter.unusedVariables false

theorem seqLen_any (s : ByteArray) (i : Nat) (hi : i < s.size) (hs : s.size ≤ 1048576) (w : World) :
    Calls Try.prog 21 #[.string s, .int .i64 (i : Int)] w fun e w' => e = .returned (.int .i64 (sq s i : Nat)) ∧ w' = w := by
  have e := bi s i hi
  have hb := bt_lt s i
  by_cases h0 : bt s i < 128
  · have := sq_ascii s i h0
    rw [this]
    exact seq_ascii s i hi hs (by omega) w
  by_cases h1 : bt s i ≤ 193
  · rw [sq_none s i hi (by omega)]
    exact seq_low s i hi hs (by omega) (by omega) w
  by_cases h2 : 245 ≤ bt s i
  · rw [sq_none s i hi (by omega)]
    exact seq_high s i hi hs (by omega) w
  by_cases h3 : bt s i ≤ 223
  · exact seq_c2 s i hi hs (by omega) (by omega) (cls2 s i hi (by omega)) w
  by_cases h4 : bt s i = 224
  · exact seq_e0 s i hi hs (by omega) (by omega) (cls3 s i _ _ hi (by omega) (by rw [if_pos h4]) (by rw [if_neg (by omega)])) w
  by_cases h5 : bt s i ≤ 236
  · exact seq_e1 s i hi hs (by omega) (by omega) (cls3 s i _ _ hi (by omega) (by rw [if_neg h4]) (by rw [if_neg (by omega)])) w
  by_cases h6 : bt s i = 237
  · exact seq_ed s i hi hs (by omega) (by omega) (cls3 s i _ _ hi (by omega) (by rw [if_neg h4]) (by rw [if_pos h6])) w
  by_cases h7 : bt s i = 238
  · exact seq_ee s i hi hs (by omega) (by omega) (cls3 s i _ _ hi (by omega) (by rw [if_neg h4]) (by rw [if_neg h6])) w
  by_cases h8 : bt s i = 239
  · exact seq_ef s i hi hs (by omega) (by omega) (cls3 s i _ _ hi (by omega) (by rw [if_neg h4]) (by rw [if_neg h6])) w
  by_cases h9 : bt s i = 240
  · exact seq_f0 s i hi hs (by omega) (by omega) (cls4 s i _ _ hi (by omega) (by rw [if_pos h9]) (by rw [if_neg (by omega)])) w
  by_cases h10 : bt s i ≤ 243
  · exact seq_f1 s i hi hs (by omega) (by omega) (cls4 s i _ _ hi (by omega) (by rw [if_neg h9]) (by rw [if_neg (by omega)])) w
  · exact seq_f4 s i hi hs (by omega) (by omega) (cls4 s i _ _ hi (by omega) (by rw [if_neg h9]) (by rw [if_pos (by omega)])) w

set_option maxHeartbeats 1000000 in
theorem units_any (s : ByteArray) (hs : s.size ≤ 1048576) (w : World) :
    Calls Try.prog 16 #[.string s] w fun e w' => e = .returned (.int .i64 (units s s.size 0 : Nat)) ∧ w' = w := by
  obtain ⟨R, hR⟩ : ∃ R : Nat, units s s.size 0 = R := ⟨_, rfl⟩
  rw [hR]
  have HR : Hid (units s s.size 0 = R) := hR
  clear hR
  go_enter Try.func16, Try.ntmps16
  go_wp2
  go_loop [3, 4] (fun n i => ∃ (pos f acc : Nat), i = .int .i64 (pos : Int) ∧ n = .int .i64 (acc : Int) ∧ Hid (acc + units s f pos = R) ∧ pos ≤ s.size ∧ s.size ≤ pos + f ∧ acc ≤ 2 * pos) (fun _ i => s.size - (intOf i).toNat)
  case atStart => exact ⟨0, s.size, 0, rfl, rfl, by show 0 + units s s.size 0 = R; rw [HR.out, Nat.zero_add], by omega, by omega, by omega⟩
  case round =>
    obtain ⟨pos, f, acc, rfl, rfl, HC, hp1, hp2, hacc⟩ := hrel
    by_cases hp : pos < s.size
    · obtain ⟨f', rfl⟩ : ∃ f', f = f' + 1 := ⟨f - 1, by omega⟩
      have hstep := units_step s f' pos hp
      have hcall := seqLen_any s pos hp hs w
      have hle := sq_le s pos hp
      by_cases hz : sq s pos = 0
      · have hq := sq_zero s pos hp hz
        rw [hq.1, hq.2] at hstep
        rw [hz] at hcall
        have HA : Hid (acc + 1 + units s f' (pos + 1) = R) := by have a := HC.out; rw [hstep] at a; show _ = _; omega
        have HX : Hid (Calls Try.prog 21 #[.string s, .int .i64 (pos : Int)] w fun e w' => e = .returned (.int .i64 ((0 : Nat) : Int)) ∧ w' = w) := hcall
        clear hcall hle hq hstep hz
        go_wp2_with (go_at_call 21; refine HX.out.mono ?_; rintro e w' ⟨rfl, rfl⟩)
        go_round
        case rel => exact ⟨pos + 1, f', acc + 1, by go_num, by go_num, HA, by omega, by omega, by omega⟩
        case measure => simp [intOf]; omega
      · have hq := sq_pos s pos hp hz
        by_cases h4 : sq s pos = 4
        · rw [hq.1, hq.2, if_pos h4, h4] at hstep
          rw [h4] at hcall hle
          have HA : Hid (acc + 2 + units s f' (pos + 4) = R) := by have a := HC.out; rw [hstep] at a; show _ = _; omega
          have HX : Hid (Calls Try.prog 21 #[.string s, .int .i64 (pos : Int)] w fun e w' => e = .returned (.int .i64 ((4 : Nat) : Int)) ∧ w' = w) := hcall
          obtain ⟨hle1, hle2⟩ := hle
          clear hcall hq hstep hz h4 hle2
          go_wp2_with (go_at_call 21; refine HX.out.mono ?_; rintro e w' ⟨rfl, rfl⟩)
          go_round
          case rel => exact ⟨pos + 4, f', acc + 2, by go_num, by go_num, HA, by omega, by omega, by omega⟩
          case measure => simp [intOf]; omega
        · rw [hq.1, hq.2, if_neg h4] at hstep
          obtain ⟨v, hv⟩ : ∃ v : Nat, sq s pos = v := ⟨_, rfl⟩
          rw [hv] at hstep hcall hle hz h4
          have HA : Hid (acc + 1 + units s f' (pos + v) = R) := by have a := HC.out; rw [hstep] at a; show _ = _; omega
          have HX : Hid (Calls Try.prog 21 #[.string s, .int .i64 (pos : Int)] w fun e w' => e = .returned (.int .i64 ((v : Nat) : Int)) ∧ w' = w) := hcall
          obtain ⟨hle1, hle2⟩ := hle
          have t0 : ((v : Int) == 0) = false := beq_eq_false_iff_ne.2 (by omega)
          have t4 : ((v : Int) == 4) = false := beq_eq_false_iff_ne.2 (by omega)
          clear hcall hq hstep hv
          go_wp2_with (go_at_call 21; refine HX.out.mono ?_; rintro e w' ⟨rfl, rfl⟩)
          go_round
          case rel => exact ⟨pos + v, f', acc + 1, by go_num, by go_num, HA, by omega, by omega, by omega⟩
          case measure => simp [intOf]; omega
    · go_wp2
      go_ret
      exact ⟨ret_int (by have a := HC.out; rw [units_end s f pos hp] at a; omega), rfl⟩

theorem bytes14 (s : ByteArray) (w : World) (h : s.size ≤ 1048576) : Calls Try.prog 14 #[.string s] w fun e w' => e = .returned (.bool true) ∧ w' = w := by
  go_enter Try.func14, Try.ntmps14
  go_wp2
  go_ret
  exact ⟨rfl, rfl⟩

set_option maxHeartbeats 400000 in
theorem agrees (s : ByteArray) (hs : s.size ≤ maxLen) (w : World) :
    Calls Try.prog 6 #[.string s] w fun e w' => e = .returned (.bool true) ∧ Grown w w' := by
  unfold maxLen at hs
  by_cases hbig : 1048576 < s.size
  · go_enter Try.func6, Try.ntmps6
    go_wp2
    go_ret
    exact ⟨rfl, Grown.refl _⟩
  go_enter Try.func6, Try.ntmps6
  go_wp2_with fail
  refine (bytes14 s _ (by omega)).mono ?_
  rintro e w1 ⟨rfl, rfl⟩
  go_wp2_with fail
  refine (ZZutf16Len_any s (by omega) _).mono ?_
  rintro e w2 ⟨rfl, hg⟩
  go_wp2_with fail
  refine (units_any s (by omega) _).mono ?_
  rintro e w3 ⟨rfl, rfl⟩
  go_wp2
  go_ret
  exact ⟨ret_bool (by simp), hg⟩
end Go.Proofs.Qxb6603968a.LawUtf
