/-
  THE WALK OF base58Encode, GONE ON: noughts alone; the nil slice; every slice; ZZBase58Encode.
-/
import Derived.Test.Qxb6604282aWalkEnc
namespace Go.Proofs.Qxb6604282a.WalkEnc
open Go.ChangeShapes Go.WideShapes Go.ChangeAt Go.RowKit
open Go.Proofs.Qxb6604282a.Num Go.Proofs.Qxb6604282a.WalkBase
set_option linter.unusedVariables false

set_option maxHeartbeats 1000000 in
theorem enc_zeros (b z : Nat) (w : World) (hn : z ≤ 4097) (hb : b < w.heap.size) (hc : ∀ j, j < z → w.cell? ⟨b, j, none⟩ = some (.int .u8 0)) :
    Calls Try.prog 13 #[.slice (some ⟨b, 0, none⟩) z z] w fun e w' => e = .returned (.string ⟨(enc z []).toArray⟩) ∧ Below w.heap.size w w' := by
  obtain ⟨i0, hi, hq0, hq1, hq2⟩ := info_parts info5
  have HC : Hid (∀ j, j < z → w.cell? ⟨b, j, none⟩ = some (.int .u8 0)) := hc
  clear hc
  go_enter Try.func13, Try.ntmps13
  go_wp2
  go_loop [3] (fun i => ∃ k : Nat, k ≤ z ∧ i = .int .i64 (k : Int)) (fun i => z - (intOf i).toNat)
  case atStart => exact ⟨0, by omega, rfl⟩
  case round =>
    obtain ⟨k, hk, rfl⟩ := hrel
    by_cases hlt : k < z
    · have hcell := HC.out k hlt
      go_wp2
      go_round
      case rel => exact ⟨k + 1, by omega, by go_num⟩
      case measure => simp [intOf]; omega
    · obtain rfl : z = k := by omega
      go_wp2_with (at_make; refine wpList_make_own _ rfl _ _ 22 rfl w.heap.size 5 i0 (.int .u8 0) 1 Try.underlying22 hi hq0 hq1 _ _ _ 1 rfl rfl (by omega) ?b2 ?b3 (Nat.le_refl _) ?_)
      case b3 => unfold maxLen; omega
      intro w0 hown0 hgrow0
      have hB : Below w.heap.size w w0 := (Below.refl _ _).grown hgrow0 (Nat.le_refl _) (fun k h => by cases h)
      have hsz : w.heap.size < w0.heap.size := (show Own w.heap.size w0 w.heap.size [] 1 from hown0).lt.2
      clear hown0 hgrow0
      go_wp2
      refine wp_loop_rounds 1 ?_
      rw [rounds_succ]
      go_wp2_with (at_make; refine wpList_make_full _ rfl _ _ 22 rfl w.heap.size 5 i0 (.int .u8 0) 1 Try.underlying22 hi hq0 hq1 _ _ _ _ z rfl rfl (by omega) (by omega) ?b4 ?b5 hB.size ?_)
      case b4 => first | (rw [hq2]; omega) | omega
      case b5 => unfold maxLen; omega
      intro w2 hown2 hgrow2
      have HG : Hid (Own w.heap.size w2 w0.heap.size (List.replicate z 0) z) := own_made hown2
      have hbel2 : Below w.heap.size w w2 := hB.grown hgrow2 hB.size (fun k h => by cases h)
      clear hown2 hgrow2 hB
      generalize w0.heap.size = g at *
      go_wp2
      go_loopw [10] (fun iv wr => ∃ k : Nat, k ≤ z ∧ iv = .int .i64 (k : Int) ∧ Hid (Own w.heap.size wr g (row5 z 0 k) z) ∧ Below w.heap.size w wr) (fun iv _ => z - (intOf iv).toNat)
      case atStart => exact ⟨0, by omega, rfl, by show Own _ _ _ _ _; rw [row5_zero]; exact HG.out, hbel2⟩
      case round =>
        obtain ⟨k, hkz, rfl, HGr, hbr⟩ := hrel
        by_cases hkl : k < z
        · obtain ⟨old, hold⟩ : ∃ old, wr.cell? ⟨g, k, none⟩ = some old := ⟨_, HGr.out.cell k (by rw [row5_len _ _ _ (by omega)]; omega)⟩
          have hfr : wr.frozen? ⟨g, k, none⟩ = false := HGr.out.free k
          have HS : Hid (Own w.heap.size (wr.setCell ⟨g, k, none⟩ (.int .u8 49)) g (row5 z 0 (k + 1)) z) := by
            show Own _ _ _ _ _
            have h := HGr.out.store k 49
            rwa [row5_set _ _ _ (by omega)] at h
          go_wp2
          go_roundw
          case rel => exact ⟨k + 1, by omega, by go_num, HS, hbr.setCell (by exact Nat.le_of_lt hsz) _⟩
          case measure => simp [intOf]; omega
        · obtain rfl : z = k := by omega
          have hcv := conv_out (z := z) (n := z) (D := []) rfl (by have h := HGr.out; rw [show row5 z 0 z = row6 z [] 0 from row5_row6 z []] at h; exact h)
          go_wp2
          refine wp_loop_rounds 1 ?_
          rw [rounds_succ]
          go_wp2
          go_ret
          exact ⟨rfl, hbr⟩

set_option maxHeartbeats 1000000 in
theorem enc_nil (w : World) :
    Calls Try.prog 13 #[.slice none 0 0] w fun e w' => e = .returned (.string ⟨(enc 0 []).toArray⟩) ∧ Below w.heap.size w w' := by
  obtain ⟨i0, hi, hq0, hq1, hq2⟩ := info_parts info5
  go_enter Try.func13, Try.ntmps13
  go_wp2
  refine wp_loop_rounds 1 ?_
  rw [rounds_succ]
  go_wp2_with (at_make; refine wpList_make_own _ rfl _ _ 22 rfl w.heap.size 5 i0 (.int .u8 0) 1 Try.underlying22 hi hq0 hq1 _ _ _ 1 rfl rfl (by omega) ?b2 ?b3 (Nat.le_refl _) ?_)
  case b2 => rw [hq2]; omega
  case b3 => unfold maxLen; omega
  intro w0 hown0 hgrow0
  have hB : Below w.heap.size w w0 := (Below.refl _ _).grown hgrow0 (Nat.le_refl _) (fun k h => by cases h)
  clear hown0 hgrow0
  go_wp2
  refine wp_loop_rounds 1 ?_
  rw [rounds_succ]
  go_wp2_with (at_make; refine wpList_make_full _ rfl _ _ 22 rfl w.heap.size 5 i0 (.int .u8 0) 1 Try.underlying22 hi hq0 hq1 _ _ _ _ 0 rfl rfl (by omega) (by omega) ?b4 ?b5 hB.size ?_)
  case b4 => rw [hq2]; omega
  case b5 => unfold maxLen; omega
  intro w2 hown2 hgrow2
  have HG : Hid (Own w.heap.size w2 w0.heap.size (List.replicate 0 0) 0) := own_made hown2
  have hbel2 : Below w.heap.size w w2 := hB.grown hgrow2 hB.size (fun k h => by cases h)
  clear hown2 hgrow2 hB
  generalize w0.heap.size = g at *
  have hcv := conv_out (z := 0) (n := 0) (D := []) rfl HG.out
  go_wp2
  refine wp_loop_rounds 1 ?_
  rw [rounds_succ]
  go_wp2
  refine wp_loop_rounds 1 ?_
  rw [rounds_succ]
  go_wp2
  go_ret
  exact ⟨rfl, hbel2⟩

/-- What the encoder is handed: nil, or a row of bytes from a block's head on. -/
def Arg (w : World) (v : Value) (X : List Nat) : Prop :=
  (v = .slice none 0 0 ∧ X = []) ∨ ∃ b, v = .slice (some ⟨b, 0, none⟩) X.length X.length ∧ b < w.heap.size ∧ ∀ j (h : j < X.length), w.cell? ⟨b, j, none⟩ = some (.int .u8 (X[j] : Int))

theorem Inv_zero : Inv 58 [] 0 := ⟨by simp, rfl, .inl rfl⟩

theorem encode_any (X : List Nat) (hall : ∀ x ∈ X, x < 256) (hlen : X.length ≤ 4097) (v : Value) (w : World) (hv : Arg w v X) :
    Calls Try.prog 13 #[v] w fun e w' => (∃ D, Inv 58 D (val 256 X) ∧ e = .returned (.string ⟨(enc (lz 0 X) D).toArray⟩)) ∧ Below w.heap.size w w' := by
  rcases hv with ⟨rfl, rfl⟩ | ⟨b, rfl, hb, hc⟩
  · refine (enc_nil w).mono ?_
    rintro e w' ⟨rfl, hbel⟩
    exact ⟨⟨[], Inv_zero, rfl⟩, hbel⟩
  · by_cases hz : lz 0 X = X.length
    · have hX : X = List.replicate X.length 0 := by
        have := take_lz 0 X
        rwa [hz, List.take_length] at this
      have h0 : ∀ j (h : j < X.length), X[j] = 0 := fun j h => lz_get 0 X j h (by omega)
      refine (enc_zeros b X.length w hlen hb (fun j h => by rw [hc j h, h0 j h]; rfl)).mono ?_
      rintro e w' ⟨rfl, hbel⟩
      refine ⟨⟨[], ?_, by rw [hz]⟩, hbel⟩
      have hv0 : val 256 X = 0 := by rw [hX]; exact val_zeros 256 _
      rw [hv0]
      exact Inv_zero
    · have hle := lz_le 0 X
      obtain ⟨m, hm⟩ : ∃ m, X.length = lz 0 X + m := ⟨X.length - lz 0 X, by omega⟩
      have h := enc_main b (lz 0 X) m X w hm (by omega) (by omega) hb hall hc (fun j h hj => lz_get 0 X j h hj) (fun h => lz_stop 0 X h)
      rw [← hm, val_drop_lz] at h
      exact h

theorem ZZ_any (X : List Nat) (hall : ∀ x ∈ X, x < 256) (hlen : X.length ≤ 4097) (v : Value) (w : World) (hv : Arg w v X) :
    Calls Try.prog 8 #[v] w fun e w' => (∃ D, Inv 58 D (val 256 X) ∧ e = .returned (.string ⟨(enc (lz 0 X) D).toArray⟩)) ∧ Below w.heap.size w w' := by
  have HC : Hid (Calls Try.prog 13 #[v] w fun e w' => (∃ D, Inv 58 D (val 256 X) ∧ e = .returned (.string ⟨(enc (lz 0 X) D).toArray⟩)) ∧ Below w.heap.size w w') := encode_any X hall hlen v w hv
  clear hv hall hlen
  go_enter Try.func8, Try.ntmps8
  go_wp2_with fail
  refine HC.out.mono ?_
  rintro e w1 ⟨⟨D, HI, rfl⟩, hbel⟩
  have HI' : Hid (Inv 58 D (val 256 X)) := HI
  clear HI
  go_wp2
  go_ret
  exact ⟨⟨D, HI'.out, rfl⟩, hbel⟩
end Go.Proofs.Qxb6604282a.WalkEnc
