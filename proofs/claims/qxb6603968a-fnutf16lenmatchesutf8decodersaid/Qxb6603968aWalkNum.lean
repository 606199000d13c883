/-
  THE WALKS OF isNumber, ZZisNumber, zzUtoa, zzDigitValue.
-/
import Derived.Test.Qxb6603968aRows
import Derived.Test.Qxb6603968aNum
import Derived.WalkKit
import Derived.ProofKit
import Derived.OpenShut
import Derived.ShutString
import Derived.WalkLawsBesides
import Derived.WalkSpells
namespace Go.Proofs.Qxb6603968a.WalkNum
open Go.ChangeShapes Go.WideShapes Go.ChangeAt Go.RowKit
open Go.Proofs.Qxb6603968a.Num
set_option linter.unusedVariables false

/-- The buffer behind k rounds: its last k cells are the last k digits. -/
def Buf (C : Array Value) (k n : Nat) : Prop := C.size = 20 ∧ ∀ j (h : j < (tl k n).length), C[20 - k + j]? = some (.int .u8 ((tl k n)[j].toNat : Int))

theorem buf_next (C : Array Value) (k r N : Nat) (hrk : r + k + 1 = 20) (hB : Buf C k N) (v : Int) (hv : v = ((48 + N / 10 ^ k % 10 : Nat) : Int)) :
    Buf (C.setIfInBounds r (.int .u8 v)) (k + 1) N := by
  obtain ⟨hs, hc⟩ := hB
  refine ⟨by simpa using hs, ?_⟩
  intro j hj
  have hd : N / 10 ^ k % 10 < 10 := Nat.mod_lt _ (by omega)
  rw [tl_length] at hj
  match j, hj with
  | 0, hj =>
    have e : 20 - (k + 1) + 0 = r := by omega
    have hr : r < C.size := by omega
    have h0 : (tl (k + 1) N)[0] = db (N / 10 ^ k % 10) := rfl
    rw [e, Array.getElem?_setIfInBounds_self_of_lt hr, h0, db_toNat _ hd, hv]
  | j + 1, hj =>
    have e : 20 - (k + 1) + (j + 1) = 20 - k + j := by omega
    rw [e, Array.getElem?_setIfInBounds_ne (by omega), hc j (by rw [tl_length]; omega)]
    simp [tl]

theorem slice_buf (r : Nat) (hr : r < 20) (b : Nat) (wx : World) :
    (Instr.sliceAt 33 (.pointer (some ⟨b, 0, none⟩)) (some (.int .i64 (r : Int))) none none).run Try.prog wx = .ok (.slice (some ⟨b, r, none⟩) (20 - r) (20 - r)) wx := by
  have hu : Try.prog.underlying 33 = some (.array (Try.prog.arrayLen 33) (Try.prog.elem 33)) := by kernel_rfl
  have hn : Try.prog.arrayLen 33 = 20 := by kernel_rfl
  have hz : (sizeOf (Try.prog.elem 33)).run Try.prog wx = .ok 1 wx := by kernel_rfl
  rw [run_sliceAt_array_l wx 33 ⟨b, 0, none⟩ hu .i64 (r : Int) (by omega) (by rw [hn]; omega), hz, hn]
  have hne : ¬ 20 = r := by omega
  simp only [Result.andThen, slicedAt, Int.toNat_natCast, if_neg hne]
  simp [Addr.add]
  exact fun h => h.symm

theorem conv_buf (C : Array Value) (k r N : Nat) (hrk : r + k = 20) (hB : Buf C k N) (w : World) :
    (convert 31 9 (.slice (some ⟨w.heap.size, r, none⟩) (20 - r) (20 - r))).run Try.prog (w.alloc (.cells C 33)) = .ok (.string ⟨(tl k N).toArray⟩) (w.alloc (.cells C 33)) := by
  have hl : 20 - r = (tl k N).length := by rw [tl_length]; omega
  rw [hl]
  refine run_convert_bytes_back _ 31 9 5 _ _ (tl k N) Try.underlying31 Try.underlying5 Try.underlying9 ?_
  intro j hj
  have e : (⟨w.heap.size, r, none⟩ : Addr).add j = ⟨w.heap.size, r + j, none⟩ := by simp [Addr.add]
  rw [e, World.cell?_alloc_mark, ← hB.2 j hj]
  congr 1
  omega

theorem digits_done (N k q : Nat) (hq : q = N / 10 ^ k) (ht : (q : Int) / 10 = 0) (hk0 : k = 0 ∨ 10 ^ k ≤ N) : N < 10 ^ (k + 1) ∧ (k = 0 ∨ 10 ^ k ≤ N) := by
  refine ⟨?_, hk0⟩
  have hlt : N / 10 ^ k < 10 := by omega
  rw [Nat.div_lt_iff_lt_mul (pow_pos' k)] at hlt
  rw [Nat.pow_succ, Nat.mul_comm]
  exact hlt

theorem digits_go (N k q : Nat) (hq : q = N / 10 ^ k) (hN : N ≤ 18446744073709551615) (ht : ¬ (q : Int) / 10 = 0) : k + 1 ≤ 19 ∧ 10 ^ (k + 1) ≤ N ∧ q / 10 = N / 10 ^ (k + 1) := by
  have hge : 10 ≤ N / 10 ^ k := by omega
  rw [Nat.le_div_iff_mul_le (pow_pos' k)] at hge
  have hp : 10 ^ (k + 1) ≤ N := by rw [Nat.pow_succ, Nat.mul_comm]; exact hge
  refine ⟨?_, hp, ?_⟩
  · rcases Nat.lt_or_ge 19 (k + 1) with h | h
    · exfalso
      have := pow_mono h
      have e : (10 : Nat) ^ (19 + 1) = 100000000000000000000 := by decide
      omega
    · exact h
  · rw [hq, Nat.div_div_eq_div_mul, Nat.pow_succ]

set_option maxHeartbeats 400000 in
theorem utoa_any (n : Int) (hn0 : 0 ≤ n) (hn1 : n ≤ 18446744073709551615) (w : World) :
    Calls Try.prog 10 #[.int .u64 n] w fun e w' => (∃ k : Nat, 1 ≤ k ∧ n.toNat < 10 ^ k ∧ (k = 1 ∨ 10 ^ (k - 1) ≤ n.toNat) ∧ e = .returned (.string ⟨(tl k n.toNat).toArray⟩)) ∧ Grown w w' := by
  obtain ⟨N, rfl⟩ := Int.eq_ofNat_of_zero_le hn0
  rw [Int.toNat_natCast]
  go_enter Try.func10, Try.ntmps10
  go_wp2
  go_loopw [0, 4] (fun m i wr => ∃ (k q r : Nat) (C : Array Value), r + k + 1 = 20 ∧ i = .int .i64 ((r : Int) + 1) ∧ m = .int .u64 (q : Int) ∧ q ≤ N ∧ q = N / 10 ^ k ∧ (k = 0 ∨ 10 ^ k ≤ N) ∧ Buf C k N ∧ wr = w.alloc (.cells C 33))
    (fun _ i _ => (intOf i).toNat)
  case atStart => exact ⟨0, N, 19, _, by omega, rfl, rfl, by omega, by simp, .inl rfl, ⟨rfl, by simp [tl]⟩, rfl⟩
  case round =>
    obtain ⟨k, q, r, C, hrk, rfl, rfl, hq, hqN, hk0, hB, rfl⟩ := hrel
    have hN := buf_next C k r N hrk hB (48 + (q : Int) % 10) (by rw [hqN]; omega)
    have hsz : C.size = 20 := hB.1
    have hr20 : r < 20 := by omega
    have HQ : Hid (q = N / 10 ^ k) := hqN
    have HK : Hid (r + k + 1 = 20) := hrk
    have hsl := slice_buf r hr20 w.heap.size
    have hcv := conv_buf _ (k + 1) r N (by omega) hN w
    clear hqN hrk
    go_wp2
    · go_ret
      have ht : (q : Int) / 10 = 0 := by simpa using (show ((q : Int) / 10 == 0) = true by assumption)
      have hdone := digits_done N k q HQ.out ht hk0
      exact ⟨⟨k + 1, by omega, hdone.1, by simpa using hdone.2, rfl⟩, (Grown.refl _).alloc _ _⟩
    · have ht : ((q : Int) / 10 == 0) = false := by assumption
      have ht' : ¬ (q : Int) / 10 = 0 := by simpa using ht
      have hgo := digits_go N k q HQ.out (by omega) ht'
      have hk := HK.out
      obtain ⟨r', rfl⟩ : ∃ r', r = r' + 1 := ⟨r - 1, by omega⟩
      go_roundw
      case rel => exact ⟨k + 1, q / 10, r', _, by omega, by go_num, by go_num, by omega, hgo.2.2, .inr hgo.2.1, hN, rfl⟩
      case measure => simp [intOf]; omega

/-! ### isNumber -/
theorem getL (s : ByteArray) (k : Nat) (h : k < s.size) : s.data.toList[k]? = some s[k] := by
  rw [List.getElem?_eq_getElem (by simpa using h)]; rfl
theorem take_snoc (s : ByteArray) (k : Nat) (h : k < s.size) : s.data.toList.take (k + 1) = s.data.toList.take k ++ [s[k]] := by
  rw [List.take_succ_eq_append_getElem (by simpa using h)]; rfl
theorem lenL (s : ByteArray) : s.data.toList.length = s.size := Array.length_toList
theorem headL (s : ByteArray) (h : 0 < s.size) : s.data.toList.head? = some s[0] := by
  rw [List.head?_eq_getElem?]; exact getL s 0 h

theorem isNum_zero (s : ByteArray) (h0 : 0 < s.size) (hz : ((s[0]'h0).toNat : Int) = 48) (h1 : 1 < s.size) : isNum s.data.toList = false := by
  have : s[0]'h0 = 48 := UInt8.toNat_inj.1 (by have : (48 : UInt8).toNat = 48 := rfl; omega)
  simp only [isNum, headL s h0, this, lenL]
  simp [h1]
theorem isNum_bad (s : ByteArray) (k : Nat) (hk : k < s.size) (hb : ((s[k]'hk).toNat : Int) < 48 ∨ 57 < ((s[k]'hk).toNat : Int)) : isNum s.data.toList = false := by
  apply isNum_notdig
  rw [List.all_eq_false]
  refine ⟨s[k], List.mem_of_getElem? (getL s k hk), ?_⟩
  rw [isDig_iff]
  omega
theorem isNum_good (s : ByteArray) (h0 : 0 < s.size) (h15 : s.size ≤ 15) (hz : ¬ (((s[0]'h0).toNat : Int) = 48 ∧ 1 < s.size)) (hall : s.data.toList.all isDig = true) : isNum s.data.toList = true := by
  have : ¬ (s[0]'h0 = 48 ∧ 1 < s.size) := fun h => hz ⟨by rw [h.1]; rfl, h.2⟩
  simp only [isNum, headL s h0, lenL, hall]
  by_cases h1 : 1 < s.size
  · have hne : ¬ s[0]'h0 = 48 := fun h => this ⟨h, h1⟩
    simp [hne]; omega
  · simp [h1]; omega

theorem ret_bool {a b : Bool} (h : a = b) : Ending.returned (.bool a) = .returned (.bool b) := by rw [h]
theorem ret_int {k : IntKind} {a b : Int} (h : a = b) : Ending.returned (.int k a) = .returned (.int k b) := by rw [h]

theorem all_next (s : ByteArray) (k : Nat) (h : k < s.size) (ha : (s.data.toList.take k).all isDig = true) (h1 : 48 ≤ ((s[k]'h).toNat : Int)) (h2 : ((s[k]'h).toNat : Int) ≤ 57) : (s.data.toList.take (k + 1)).all isDig = true := by
  rw [take_snoc s k h, all_snoc, ha, Bool.true_and, isDig_iff]
  omega
theorem all_end (s : ByteArray) (k : Nat) (h : s.size ≤ k) (ha : (s.data.toList.take k).all isDig = true) : s.data.toList.all isDig = true := by
  rwa [List.take_of_length_le (by rw [lenL]; exact h)] at ha

set_option maxHeartbeats 400000 in
theorem isNumber_any (s : ByteArray) (w : World) (hs : s.size ≤ maxLen) :
    Calls Try.prog 18 #[.string s] w fun e w' => e = .returned (.bool (isNum s.data.toList)) ∧ w' = w := by
  unfold maxLen at hs
  obtain ⟨B, HB⟩ : ∃ B, Hid (isNum s.data.toList = B) := ⟨_, rfl⟩
  rw [HB.out]
  by_cases h0 : s.size = 0
  · go_enter Try.func18, Try.ntmps18
    go_wp2
    go_ret
    have : s.data.toList = [] := List.eq_nil_of_length_eq_zero (by rw [lenL]; exact h0)
    exact ⟨ret_bool (by rw [← HB.out, this]; rfl), rfl⟩
  by_cases h15 : 15 < s.size
  · go_enter Try.func18, Try.ntmps18
    go_wp2
    go_ret
    exact ⟨ret_bool (by rw [← HB.out, isNum_long s.data.toList (by rw [lenL]; exact h15)]), rfl⟩
  have hp : 0 < s.size := by omega
  have b0 : ((s.size : Int) == 0) = false := by simpa using h0
  have b15 : decide (15 < (s.size : Int)) = false := decide_eq_false (by omega)
  by_cases hz : ((s[0]'hp).toNat : Int) = 48
  · by_cases h1 : 1 < s.size
    · go_enter Try.func18, Try.ntmps18
      go_wp2
      go_ret
      exact ⟨ret_bool (by rw [← HB.out, isNum_zero s hp hz h1]), rfl⟩
    · have hg : Hid (¬ (((s[0]'hp).toNat : Int) = 48 ∧ 1 < s.size)) := fun h => h1 h.2
      have h1' : s.size = 1 := by omega
      go_enter Try.func18, Try.ntmps18
      go_wp2
      go_loop [3] (fun i => ∃ k : Nat, k ≤ s.size ∧ i = .int .i64 k ∧ Hid ((s.data.toList.take k).all isDig = true)) (fun i => s.size - (intOf i).toNat)
      case atStart => exact ⟨0, by omega, rfl, rfl⟩
      case round =>
        obtain ⟨k, hk, rfl, HA⟩ := hrel
        by_cases hlt : k < s.size
        · by_cases hlo : ((s[k]'hlt).toNat : Int) < 48
          · go_wp2
            go_ret
            exact ⟨ret_bool (by rw [← HB.out, isNum_bad s k hlt (.inl hlo)]), rfl⟩
          · by_cases hhi : 57 < ((s[k]'hlt).toNat : Int)
            · go_wp2
              go_ret
              exact ⟨ret_bool (by rw [← HB.out, isNum_bad s k hlt (.inr hhi)]), rfl⟩
            · go_wp2
              go_round
              case rel => exact ⟨k + 1, by omega, by go_num, all_next s k hlt HA.out (by omega) (by omega)⟩
              case measure => simp [intOf]; omega
        · go_wp2
          go_ret
          exact ⟨ret_bool (by rw [← HB.out, isNum_good s hp (by omega) hg.out (all_end s k (by omega) HA.out)]), rfl⟩
  · have hg : Hid (¬ (((s[0]'hp).toNat : Int) = 48 ∧ 1 < s.size)) := fun h => hz h.1
    have hzb : (((s[0]'hp).toNat : Int) == 48) = false := by simpa using hz
    go_enter Try.func18, Try.ntmps18
    go_wp2
    go_loop [3] (fun i => ∃ k : Nat, k ≤ s.size ∧ i = .int .i64 k ∧ Hid ((s.data.toList.take k).all isDig = true)) (fun i => s.size - (intOf i).toNat)
    case atStart => exact ⟨0, by omega, rfl, rfl⟩
    case round =>
      obtain ⟨k, hk, rfl, HA⟩ := hrel
      by_cases hlt : k < s.size
      · by_cases hlo : ((s[k]'hlt).toNat : Int) < 48
        · go_wp2
          go_ret
          exact ⟨ret_bool (by rw [← HB.out, isNum_bad s k hlt (.inl hlo)]), rfl⟩
        · by_cases hhi : 57 < ((s[k]'hlt).toNat : Int)
          · go_wp2
            go_ret
            exact ⟨ret_bool (by rw [← HB.out, isNum_bad s k hlt (.inr hhi)]), rfl⟩
          · go_wp2
            go_round
            case rel => exact ⟨k + 1, by omega, by go_num, all_next s k hlt HA.out (by omega) (by omega)⟩
            case measure => simp [intOf]; omega
      · go_wp2
        go_ret
        exact ⟨ret_bool (by rw [← HB.out, isNum_good s hp (by omega) hg.out (all_end s k (by omega) HA.out)]), rfl⟩

theorem ZZisNumber_any (s : ByteArray) (w : World) (hs : s.size ≤ maxLen) :
    Calls Try.prog 11 #[.string s] w fun e w' => e = .returned (.bool (isNum s.data.toList)) ∧ w' = w := by
  go_enter Try.func11, Try.ntmps11
  go_wp2_with (go_at_call 18; refine (isNumber_any s _ hs).mono ?_; rintro e w' ⟨rfl, rfl⟩)
  go_ret
  exact ⟨rfl, rfl⟩

/-! ### zzDigitValue -/
def dval (c : Int) : Int := if 48 ≤ c ∧ c ≤ 57 then c - 48 else -1

theorem idx_digits (k : Nat) (hk : k < 10) (wx : World) :
    (Instr.index 9 (.string ⟨#[48, 49, 50, 51, 52, 53, 54, 55, 56, 57]⟩) (.int .i64 (k : Int))).run Try.prog wx = .ok (.int .u8 (48 + (k : Int))) wx := by
  have hsz : (⟨#[48, 49, 50, 51, 52, 53, 54, 55, 56, 57]⟩ : ByteArray).size = 10 := rfl
  rw [run_index_string wx 9 _ .i64 _ Try.underlying9, dif_pos ⟨by omega, by rw [hsz]; omega⟩]
  match k, hk with
  | 0, _ => rfl
  | 1, _ => rfl
  | 2, _ => rfl
  | 3, _ => rfl
  | 4, _ => rfl
  | 5, _ => rfl
  | 6, _ => rfl
  | 7, _ => rfl
  | 8, _ => rfl
  | 9, _ => rfl

set_option maxHeartbeats 400000 in
theorem digitValue_any (c : Int) (h0 : 0 ≤ c) (h1 : c ≤ 255) (w : World) :
    Calls Try.prog 9 #[.int .u8 c] w fun e w' => e = .returned (.int .i64 (dval c)) ∧ w' = w := by
  go_enter Try.func9, Try.ntmps9
  go_wp2
  go_loop [3] (fun i => ∃ k : Nat, k ≤ 10 ∧ i = .int .i64 k ∧ ¬ (48 ≤ c ∧ c < 48 + k)) (fun i => 10 - (intOf i).toNat)
  case atStart => exact ⟨0, by omega, rfl, by omega⟩
  case round =>
    obtain ⟨k, hk, rfl, hno⟩ := hrel
    by_cases hlt : k < 10
    · have hix := idx_digits k hlt
      by_cases he : 48 + (k : Int) = c
      · have heb : (48 + (k : Int) == c) = true := by simpa using he
        go_wp2
        go_ret
        exact ⟨ret_int (by unfold dval; rw [if_pos (by omega)]; omega), rfl⟩
      · have heb : (48 + (k : Int) == c) = false := by simpa using he
        go_wp2
        go_round
        case rel => exact ⟨k + 1, by omega, by go_num, by omega⟩
        case measure => simp [intOf]; omega
    · go_wp2
      go_ret
      exact ⟨ret_int (by unfold dval; rw [if_neg (by omega)]), rfl⟩
end Go.Proofs.Qxb6603968a.WalkNum
