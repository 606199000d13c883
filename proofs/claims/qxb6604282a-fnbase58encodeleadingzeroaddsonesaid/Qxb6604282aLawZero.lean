/-
  THE WALK OF THE LAW ON A LEADING NOUGHT.
-/
import Derived.Test.Qxb6604282aLawEnc
namespace Go.Proofs.Qxb6604282a.LawZero
open Go.ChangeShapes Go.WideShapes Go.ChangeAt Go.RowKit
open Go.Proofs.Qxb6604282a.Num Go.Proofs.Qxb6604282a.WalkBase Go.Proofs.Qxb6604282a.WalkEnc Go.Proofs.Qxb6604282a.Laws Go.Proofs.Qxb6604282a.LawEnc
set_option linter.unusedVariables false

theorem bytes12 (a : Option Addr) (n c : Nat) (w : World) (h : n ≤ 1048576) : Calls Try.prog 12 #[.slice a n c] w fun e w' => e = .returned (.bool true) ∧ w' = w := by
  go_enter Try.func12, Try.ntmps12
  go_wp2
  go_ret
  exact ⟨rfl, rfl⟩

theorem zero_big (a : Option Addr) (n c : Nat) (w : World) (hs : n ≤ maxLen) (h : 4096 < n) : Calls Try.prog 5 #[.slice a n c] w fun e w' => e = .returned (.bool true) ∧ Below w.heap.size w w' := by
  unfold maxLen at hs
  by_cases hb : 1048576 < n
  · go_enter Try.func5, Try.ntmps5
    go_wp2
    go_ret
    exact ⟨rfl, Below.refl _ _⟩
  · go_enter Try.func5, Try.ntmps5
    go_wp2
    go_ret
    exact ⟨rfl, Below.refl _ _⟩

/-- The two texts. -/
theorem texts (X D1 D2 : List Nat) (hlen : X.length ≤ 4096) (hall : ∀ x ∈ X, x < 256) (h1 : Inv 58 D1 (val 256 (0 :: X))) (h2 : Inv 58 D2 (val 256 X)) :
    (⟨(enc (lz 0 (0 :: X)) D1).toArray⟩ : ByteArray) = ⟨#[49]⟩ ++ ⟨(enc (lz 0 X) D2).toArray⟩ ∧ (⟨(enc (lz 0 X) D2).toArray⟩ : ByteArray).size ≤ 100000 := by
  rw [val_cons_zero] at h1
  obtain rfl := Inv_unique 58 (by omega) D1 D2 _ h1 h2
  constructor
  · rw [lz_cons, enc_cons]
    apply WideShapes.bytes_inj
    rw [ByteArray.data_append]
    simp
  · have hz := lz_le 0 X
    have := (digits_len X D1 (X.length - lz 0 X) (by omega) hall h1).2
    rw [size_enc]
    omega

theorem fill_start (X : List Nat) : List.replicate (X.length + 1) 0 = (0 :: X).take (0 + 1) ++ List.replicate ((0 :: X).length - (0 + 1)) 0 := by
  simp [List.replicate_succ]
theorem all_cons (X : List Nat) (h : ∀ x ∈ X, x < 256) : ∀ x ∈ (0 :: X), x < 256 := by
  intro x hx
  rcases List.mem_cons.1 hx with h' | h'
  · omega
  · exact h x h'

set_option maxHeartbeats 1000000 in
theorem zero_full (a : Option Addr) (len cap : Nat) (X : List Nat) (w : World) (h : In w a len cap X) (hpos : 0 < len) (hn : len ≤ 4096) :
    Calls Try.prog 5 #[.slice a len cap] w fun e w' => e = .returned (.bool true) ∧ Below w.heap.size w w' := by
  have HI : Hid (In w a len cap X) := h
  have HX : Hid (X.length = len) := h.1
  have HA : Hid (∀ x ∈ X, x < 256) := h.2.1
  clear h
  obtain ⟨i0, hi, hq0, hq1, hq2⟩ := info_parts info5
  have d12 : decide (4096 < (len : Int)) = false := decide_eq_false (by omega)
  go_enter Try.func5, Try.ntmps5
  go_wp2_with fail
  refine (bytes12 _ _ _ _ (by omega)).mono ?_
  rintro e w1 ⟨rfl, rfl⟩
  go_wp2_with fail
  refine (clone_full a len cap X _ HI.out hpos hn).mono ?_
  rintro e w2 ⟨rfl, hown, hbel⟩
  have HO : Hid (Own w1.heap.size w2 w1.heap.size X len) := hown
  have hsz2 : w1.heap.size < w2.heap.size := hown.lt.2
  clear hown
  go_wp2_with (at_make; refine wpList_make_full _ rfl _ _ 22 rfl w1.heap.size 5 i0 (.int .u8 0) 1 Try.underlying22 hi hq0 hq1 _ _ _ _ (len + 1) rfl rfl (by omega) (by omega) ?b4 ?b5 hbel.size ?_)
  case b4 => first | (rw [hq2]; omega) | omega
  case b5 => unfold maxLen; omega
  intro w3 hown3 hgrow3
  have HG : Hid (Own w1.heap.size w3 w2.heap.size ((0 :: X).take (0 + 1) ++ List.replicate ((0 :: X).length - (0 + 1)) 0) (len + 1)) := by
    show Own _ _ _ _ _
    rw [← fill_start, HX.out]
    exact own_made hown3
  have HB3 : Hid (Own w1.heap.size w3 w1.heap.size X len) := HO.out.grown hgrow3 (by simp)
  have hbel3 : Below w1.heap.size w1 w3 := hbel.grown hgrow3 hbel.size (fun k h => by cases h)
  clear hown3 hgrow3 HO hbel
  generalize w2.heap.size = g at *
  go_wp2
  go_loopw [4] (fun iv wr => ∃ k : Nat, k ≤ len ∧ iv = .int .i64 (k : Int) ∧ Hid (Own w1.heap.size wr g ((0 :: X).take (k + 1) ++ List.replicate ((0 :: X).length - (k + 1)) 0) (len + 1)) ∧ Hid (Own w1.heap.size wr w1.heap.size X len) ∧ Below w1.heap.size w1 wr) (fun iv _ => len - (intOf iv).toNat)
  case atStart => exact ⟨0, by omega, rfl, HG, HB3, hbel3⟩
  case round =>
    obtain ⟨k, hkl, rfl, HGr, HBr, hbr⟩ := hrel
    by_cases hlt : k < len
    · have hkX : k < X.length := by rw [HX.out]; exact hlt
      have hkX1 : k + 1 < (0 :: X).length := by simpa using hkX
      have hcell : wr.cell? ⟨w1.heap.size, k, none⟩ = some (.int .u8 (X[k] : Int)) := HBr.out.cell k hkX
      obtain ⟨old, hold⟩ : ∃ old, wr.cell? ⟨g, k + 1, none⟩ = some old := ⟨_, HGr.out.cell (k + 1) (by rw [fill_len _ _ (by omega)]; exact hkX1)⟩
      have hfr : wr.frozen? ⟨g, k + 1, none⟩ = false := HGr.out.free _
      have HS : Hid (Own w1.heap.size (wr.setCell ⟨g, k + 1, none⟩ (.int .u8 (X[k] : Int))) g ((0 :: X).take (k + 1 + 1) ++ List.replicate ((0 :: X).length - (k + 1 + 1)) 0) (len + 1)) := by
        show Own _ _ _ _ _
        have h := HGr.out.store (k + 1) ((0 :: X)[k + 1])
        rw [fill_set (0 :: X) (k + 1) hkX1] at h
        exact h
      have HSB : Hid (Own w1.heap.size (wr.setCell ⟨g, k + 1, none⟩ (.int .u8 (X[k] : Int))) w1.heap.size X len) := HBr.out.other g _ (by omega) _
      generalize X[k] = x at hcell HS HSB
      go_wp2
      go_roundw
      case rel => exact ⟨k + 1, by omega, by go_num, HS, HSB, hbr.setCell (by exact Nat.le_of_lt hsz2) _⟩
      case measure => simp [intOf]; omega
    · obtain rfl : len = k := by omega
      have HG' : Hid (Own w1.heap.size wr g (0 :: X) (len + 1)) := by
        show Own _ _ _ _ _
        have h := HGr.out
        rwa [List.take_of_length_le (by simp [HX.out]), show (0 :: X).length - (len + 1) = 0 by simp [HX.out], List.replicate_zero, List.append_nil] at h
      obtain ⟨w4, rfl⟩ : ∃ w4 : World, w4 = wr := ⟨_, rfl⟩
      go_wp2_with fail
      refine (ZZ_any (0 :: X) (all_cons X HA.out) (by simp [HX.out]; omega) _ _ (arg_own (by simp [HX.out]) HG'.out)).mono ?_
      rintro e w5 ⟨⟨D1, hI1, rfl⟩, hbel5⟩
      have HBx : Hid (Own w1.heap.size w5 w1.heap.size X len) := HBr.out.below hbel5 HBr.out.lt.2
      have HI1 : Hid (Inv 58 D1 (val 256 (0 :: X))) := hI1
      clear hI1
      obtain ⟨S1, hS1⟩ : ∃ S : ByteArray, (⟨(enc (lz 0 (0 :: X)) D1).toArray⟩ : ByteArray) = S := ⟨_, rfl⟩
      rw [hS1]
      have HS1 : Hid ((⟨(enc (lz 0 (0 :: X)) D1).toArray⟩ : ByteArray) = S1) := hS1
      clear hS1
      go_wp2_with fail
      refine (ZZ_any X HA.out (by rw [HX.out]; omega) _ _ (arg_own HX.out HBx.out)).mono ?_
      rintro e w6 ⟨⟨D2, hI2, rfl⟩, hbel6⟩
      obtain ⟨tx, tsz⟩ := texts X D1 D2 (by rw [HX.out]; omega) HA.out HI1.out hI2
      rw [HS1.out] at tx
      obtain ⟨S2, hS2⟩ : ∃ S : ByteArray, (⟨(enc (lz 0 X) D2).toArray⟩ : ByteArray) = S := ⟨_, rfl⟩
      rw [hS2] at tx tsz ⊢
      have TX : Hid (S1 = ⟨#[49]⟩ ++ S2) := tx
      have hB6 : Hid (Below w1.heap.size w1 w6) := (hbr.trans (hbel5.mono hbr.size)).trans (hbel6.mono (Nat.le_trans hbr.size hbel5.size))
      clear hI2 hS2 tx hbel5 hbel6
      go_wp2
      go_ret
      exact ⟨ret_bool (by rw [TX.out]; simp), hB6.out⟩

theorem Arg_nil_later {w w' : World} {v : Value} (h : Arg w v []) (hs : w.heap.size ≤ w'.heap.size) : Arg w' v [] := by
  rcases h with h | ⟨b, hv, hb, _⟩
  · exact .inl h
  · exact .inr ⟨b, hv, by omega, fun j hj => by simp at hj⟩

set_option maxHeartbeats 1000000 in
theorem zero_empty (a : Option Addr) (cap : Nat) (w : World) (h : In w a 0 cap []) :
    Calls Try.prog 5 #[.slice a 0 cap] w fun e w' => e = .returned (.bool true) ∧ Below w.heap.size w w' := by
  have HI : Hid (In w a 0 cap []) := h
  clear h
  obtain ⟨i0, hi, hq0, hq1, hq2⟩ := info_parts info5
  go_enter Try.func5, Try.ntmps5
  go_wp2_with fail
  refine (bytes12 _ _ _ _ (by omega)).mono ?_
  rintro e w1 ⟨rfl, rfl⟩
  go_wp2_with fail
  refine (clone_empty a cap _ HI.out).mono ?_
  rintro e w2 ⟨⟨ao, rfl, harg⟩, hbel⟩
  have HArg : Hid (Arg w2 (.slice ao 0 0) []) := harg
  clear harg
  go_wp2_with (at_make; refine wpList_make_full _ rfl _ _ 22 rfl w1.heap.size 5 i0 (.int .u8 0) 1 Try.underlying22 hi hq0 hq1 _ _ _ _ 1 rfl rfl (by omega) (by omega) ?b4 ?b5 hbel.size ?_)
  case b4 => rw [hq2]; omega
  case b5 => unfold maxLen; omega
  intro w3 hown3 hgrow3
  have HG : Hid (Own w1.heap.size w3 w2.heap.size [0] 1) := own_made hown3
  have hbel3 : Below w1.heap.size w1 w3 := hbel.grown hgrow3 hbel.size (fun k h => by cases h)
  have HArg3 : Hid (Arg w3 (.slice ao 0 0) []) := Arg_nil_later HArg.out hgrow3.size
  clear hown3 hgrow3 hbel HArg
  generalize w2.heap.size = g at *
  go_wp2
  refine wp_loop_rounds 1 ?_
  rw [rounds_succ]
  go_wp2_with fail
  refine (ZZ_any [0] (by simp) (by simp) _ _ (arg_own rfl HG.out)).mono ?_
  rintro e w5 ⟨⟨D1, hI1, rfl⟩, hbel5⟩
  obtain rfl : D1 = [] := Inv_unique 58 (by omega) D1 [] 0 hI1 Inv_zero
  clear hI1
  have hse : (⟨(enc (lz 0 [0]) []).toArray⟩ : ByteArray) = ⟨#[49]⟩ := rfl
  rw [hse]
  clear hse
  go_wp2_with fail
  refine (ZZ_any [] (by simp) (by simp) _ _ (Arg_nil_later HArg3.out hbel5.size)).mono ?_
  rintro e w6 ⟨⟨D2, hI2, rfl⟩, hbel6⟩
  obtain rfl : D2 = [] := Inv_unique 58 (by omega) D2 [] 0 hI2 Inv_zero
  clear hI2
  have hse : (⟨(enc (lz 0 []) []).toArray⟩ : ByteArray) = ⟨#[]⟩ := rfl
  rw [hse]
  clear hse
  have hB6 : Hid (Below w1.heap.size w1 w6) := (hbel3.trans (hbel5.mono hbel3.size)).trans (hbel6.mono (Nat.le_trans hbel3.size hbel5.size))
  clear hbel5 hbel6 hbel3
  go_wp2
  go_ret
  exact ⟨ret_bool (by rw [ByteArray.toList_eq]; decide), hB6.out⟩

theorem zero_any (a : Option Addr) (len cap : Nat) (zs : List Int) (w : World)
    (h : (a = none ∧ len = 0 ∧ cap = 0 ∧ zs = []) ∨
      ∃ x, a = some x ∧ len ≤ cap ∧ cap ≤ maxLen ∧ zs.length = cap ∧ (∀ i, i < zs.length → w.cell? (x.add i) = some (.int .u8 (zs.getD i 0))) ∧ ∀ n ∈ zs, (Lit.int .u8 n).wf = true) :
    Calls Try.prog 5 #[.slice a len cap] w fun e w' => e = .returned (.bool true) ∧ Below w.heap.size w w' := by
  obtain ⟨hm, X, hX⟩ := in_of_row w a len cap zs h
  by_cases hbig : 4096 < len
  · exact zero_big a len cap w hm hbig
  by_cases h0 : len = 0
  · subst h0
    obtain rfl : X = [] := List.eq_nil_of_length_eq_zero hX.1
    exact zero_empty a cap w hX
  · exact zero_full a len cap X w hX (by omega) (by omega)
end Go.Proofs.Qxb6604282a.LawZero
