/-
  zzB58Digit, zzB58BytesEqual; AND THE PLAIN LAWS OF THE DECODER.
-/
import Derived.Test.Qxb6604282aLawEnc
import Derived.Deep.QuietTactic
import Derived.BigQuiet
namespace Go.Proofs.Qxb6604282a.Dec
open Go.ChangeShapes Go.WideShapes Go.ChangeAt Go.RowKit
open Go.Proofs.Qxb6604282a.Num Go.Proofs.Qxb6604282a.WalkBase Go.Proofs.Qxb6604282a.WalkEnc Go.Proofs.Qxb6604282a.Laws Go.Proofs.Qxb6604282a.LawEnc
set_option linter.unusedVariables false

theorem al_ranges : ∀ d : Fin 58, (d.val ≤ 8 ∧ al d.val = 49 + d.val) ∨ (9 ≤ d.val ∧ d.val ≤ 16 ∧ al d.val = 56 + d.val) ∨ (17 ≤ d.val ∧ d.val ≤ 21 ∧ al d.val = 57 + d.val) ∨ (22 ≤ d.val ∧ d.val ≤ 32 ∧ al d.val = 58 + d.val) ∨ (33 ≤ d.val ∧ d.val ≤ 43 ∧ al d.val = 64 + d.val) ∨ (44 ≤ d.val ∧ al d.val = 65 + d.val) := by decide

theorem ret_int {k : IntKind} {a b : Int} (h : a = b) : Ending.returned (.int k a) = .returned (.int k b) := by rw [h]

theorem digit_1 (c : Int) (h1 : 49 ≤ c) (h2 : c ≤ 57) (w : World) : Calls Try.prog 14 #[.int .u8 c] w fun e w' => e = .returned (.int .i64 (c - 49)) ∧ w' = w := by
  go_enter Try.func14, Try.ntmps14
  go_wp2
  go_ret
  exact ⟨ret_int (by omega), rfl⟩
theorem digit_2 (c : Int) (h1 : 65 ≤ c) (h2 : c ≤ 72) (w : World) : Calls Try.prog 14 #[.int .u8 c] w fun e w' => e = .returned (.int .i64 (c - 56)) ∧ w' = w := by
  go_enter Try.func14, Try.ntmps14
  go_wp2
  go_ret
  exact ⟨ret_int (by omega), rfl⟩
theorem digit_3 (c : Int) (h1 : 74 ≤ c) (h2 : c ≤ 78) (w : World) : Calls Try.prog 14 #[.int .u8 c] w fun e w' => e = .returned (.int .i64 (c - 57)) ∧ w' = w := by
  go_enter Try.func14, Try.ntmps14
  go_wp2
  go_ret
  exact ⟨ret_int (by omega), rfl⟩
theorem digit_4 (c : Int) (h1 : 80 ≤ c) (h2 : c ≤ 90) (w : World) : Calls Try.prog 14 #[.int .u8 c] w fun e w' => e = .returned (.int .i64 (c - 58)) ∧ w' = w := by
  go_enter Try.func14, Try.ntmps14
  go_wp2
  go_ret
  exact ⟨ret_int (by omega), rfl⟩
theorem digit_5 (c : Int) (h1 : 97 ≤ c) (h2 : c ≤ 107) (w : World) : Calls Try.prog 14 #[.int .u8 c] w fun e w' => e = .returned (.int .i64 (c - 64)) ∧ w' = w := by
  go_enter Try.func14, Try.ntmps14
  go_wp2
  go_ret
  exact ⟨ret_int (by omega), rfl⟩
theorem digit_6 (c : Int) (h1 : 109 ≤ c) (h2 : c ≤ 122) (w : World) : Calls Try.prog 14 #[.int .u8 c] w fun e w' => e = .returned (.int .i64 (c - 65)) ∧ w' = w := by
  go_enter Try.func14, Try.ntmps14
  go_wp2
  go_ret
  exact ⟨ret_int (by omega), rfl⟩

theorem digit_any (d : Nat) (c : Int) (hd : d < 58) (hc : c = (al d : Int)) (w : World) : Calls Try.prog 14 #[.int .u8 c] w fun e w' => e = .returned (.int .i64 (d : Int)) ∧ w' = w := by
  rcases al_ranges ⟨d, hd⟩ with ⟨h1, h2⟩ | ⟨h0, h1, h2⟩ | ⟨h0, h1, h2⟩ | ⟨h0, h1, h2⟩ | ⟨h0, h1, h2⟩ | ⟨h0, h2⟩ <;> simp only at *
  · refine (digit_1 c (by omega) (by omega) w).mono ?_
    rintro e w' ⟨rfl, rfl⟩
    exact ⟨ret_int (by omega), rfl⟩
  · refine (digit_2 c (by omega) (by omega) w).mono ?_
    rintro e w' ⟨rfl, rfl⟩
    exact ⟨ret_int (by omega), rfl⟩
  · refine (digit_3 c (by omega) (by omega) w).mono ?_
    rintro e w' ⟨rfl, rfl⟩
    exact ⟨ret_int (by omega), rfl⟩
  · refine (digit_4 c (by omega) (by omega) w).mono ?_
    rintro e w' ⟨rfl, rfl⟩
    exact ⟨ret_int (by omega), rfl⟩
  · refine (digit_5 c (by omega) (by omega) w).mono ?_
    rintro e w' ⟨rfl, rfl⟩
    exact ⟨ret_int (by omega), rfl⟩
  · refine (digit_6 c (by omega) (by omega) w).mono ?_
    rintro e w' ⟨rfl, rfl⟩
    exact ⟨ret_int (by omega), rfl⟩

theorem drewN_add (w : World) (a b : Nat) : (w.drewN a).drewN b = w.drewN (a + b) := by
  simp [World.drewN, Nat.add_assoc]

/-! ### zzB58BytesEqual on two rows that hold the same -/
set_option maxHeartbeats 400000 in
theorem equal_rows (g b n : Nat) (X : List Nat) (w : World) (hX : X.length = n) (hn : n ≤ 100000) (hg : ∀ j (h : j < X.length), w.cell? ⟨g, j, none⟩ = some (.int .u8 (X[j] : Int))) (hb : ∀ j (h : j < X.length), w.cell? ⟨b, j, none⟩ = some (.int .u8 (X[j] : Int))) :
    Calls Try.prog 10 #[.slice (some ⟨g, 0, none⟩) n n, .slice (some ⟨b, 0, none⟩) n n] w fun e w' => e = .returned (.bool true) ∧ Below w.heap.size w w' := by
  have HG : Hid (∀ j (h : j < X.length), w.cell? ⟨g, j, none⟩ = some (.int .u8 (X[j] : Int))) := hg
  have HB : Hid (∀ j (h : j < X.length), w.cell? ⟨b, j, none⟩ = some (.int .u8 (X[j] : Int))) := hb
  have HX : Hid (X.length = n) := hX
  clear hg hb hX
  go_enter Try.func10, Try.ntmps10
  go_wp2
  go_loopw [5] (fun iv wr => ∃ k : Nat, k ≤ n ∧ iv = .int .i64 (k : Int) ∧ ∃ q, Hid (wr = w.drewN q)) (fun iv _ => n - (intOf iv).toNat)
  case atStart => exact ⟨0, by omega, rfl, 0, rfl⟩
  case round =>
    obtain ⟨k, hk, rfl, q, HQ⟩ := hrel
    have hcl : ∀ x : Addr, wr.cell? x = w.cell? x := fun x => by rw [HQ.out]; rfl
    by_cases hlt : k < n
    · have hkX : k < X.length := by rw [HX.out]; exact hlt
      have c1 : wr.cell? ⟨g, k, none⟩ = some (.int .u8 (X[k] : Int)) := (hcl _).trans (HG.out k hkX)
      have c2 : wr.cell? ⟨b, k, none⟩ = some (.int .u8 (X[k] : Int)) := (hcl _).trans (HB.out k hkX)
      have hlt' : (k : Int) < (n : Int) := by omega
      clear hcl
      generalize X[k] = x at c1 c2
      go_wp2
      go_quiet (fail)
      go_wp2
      go_roundw
      case rel => exact ⟨k + 1, by omega, by go_num, q + nq, by show wr.drewN nq = w.drewN (q + nq); rw [HQ.out]; exact drewN_add w q nq⟩
      case measure => simp [intOf]; omega
    · clear hcl
      go_wp2
      go_ret
      refine ⟨rfl, ?_⟩
      rw [HQ.out]
      exact below_drewN (Below.refl _ _) q

theorem equal_empty (a b : Option Addr) (w : World) : Calls Try.prog 10 #[.slice a 0 0, .slice b 0 0] w fun e w' => e = .returned (.bool true) ∧ Below w.heap.size w w' := by
  go_enter Try.func10, Try.ntmps10
  go_wp2
  refine wp_loop_rounds 1 ?_
  rw [rounds_succ]
  go_wp2
  go_ret
  exact ⟨rfl, Below.refl _ _⟩

/-! ### plain laws of the decoder -/
theorem take_set_lt (R : List Nat) (u j x : Nat) (h : j < u) : (R.set j x).take u = (R.take u).set j x := by rw [List.take_set]
theorem take_push (R : List Nat) (u x : Nat) (h : u < R.length) : (R.set u x).take (u + 1) = R.take u ++ [x] := take_set_succ R u x h

/-- The room of the accumulator suffices. -/
theorem room2 (L k u T : Nat) (hk : k ≤ L) (hT : T < 58 ^ k) (hp : 256 ^ u ≤ T) : u < L := by
  rcases Nat.lt_or_ge u L with h | h
  · exact h
  · exfalso
    have h1 : 256 ^ L ≤ 256 ^ u := pow_mono (by omega) h
    have h2 : 58 ^ k ≤ 58 ^ L := pow_mono (by omega) hk
    have h3 : 58 ^ L ≤ 256 ^ L := Nat.pow_le_pow_left (by omega) L
    omega

/-- What the decoder makes is what was encoded. -/
theorem back (X A : List Nat) (hall : ∀ x ∈ X, x < 256) (hA : Inv 256 A (val 256 X)) : List.replicate (lz 0 X) 0 ++ A.reverse = X := by
  have hv := val_drop_lz 256 X
  have hI : Inv 256 (X.drop (lz 0 X)).reverse (val 256 X) := by
    refine ⟨fun d hd => hall d (List.mem_of_mem_drop (List.mem_reverse.1 hd)), by rw [← val_eq, hv], ?_⟩
    by_cases hz : lz 0 X < X.length
    · right
      have hne := lz_stop 0 X hz
      have hd : X.drop (lz 0 X) = X[lz 0 X] :: X.drop (lz 0 X + 1) := List.drop_eq_getElem_cons hz
      have hge := val_head 256 _ (X.drop (lz 0 X + 1)) hne
      rw [← hd, hv] at hge
      have e : (X.drop (lz 0 X)).reverse.length - 1 = (X.drop (lz 0 X + 1)).length := by simp; omega
      rw [e]
      exact hge
    · left
      simp
      omega
  have hu := Inv_unique 256 (by omega) A _ _ hA hI
  rw [hu, List.reverse_reverse, ← take_lz]
  exact List.take_append_drop _ _

/-- The decoder's row while it is filled. -/
def rowD (z : Nat) (A : List Nat) (j : Nat) : List Nat := List.replicate z 0 ++ (List.replicate (A.length - j) 0 ++ (A.take j).reverse)
theorem rowD_len (z : Nat) (A : List Nat) (j : Nat) (h : j ≤ A.length) : (rowD z A j).length = z + A.length := by simp [rowD]; omega
theorem rowD_zero (z : Nat) (A : List Nat) : rowD z A 0 = List.replicate (z + A.length) 0 := by simp [rowD]
theorem rowD_set (z : Nat) (A : List Nat) (j : Nat) (h : j < A.length) : (rowD z A j).set (z + A.length - 1 - j) A[j] = rowD z A (j + 1) := by
  unfold rowD
  have e : A.length - j = (A.length - (j + 1)) + 1 := by omega
  rw [List.set_append_right _ _ (by simp; omega), List.length_replicate, e, List.replicate_succ', List.set_append_left _ _ (by simp; omega), List.set_append_right _ _ (by simp; omega), List.length_replicate]
  rw [show z + A.length - 1 - j - z - (A.length - (j + 1)) = 0 by omega, List.set_cons_zero, List.take_succ_eq_append_getElem h, List.reverse_append]
  simp
theorem rowD_end (z : Nat) (A : List Nat) : rowD z A A.length = List.replicate z 0 ++ A.reverse := by simp [rowD]
end Go.Proofs.Qxb6604282a.Dec
