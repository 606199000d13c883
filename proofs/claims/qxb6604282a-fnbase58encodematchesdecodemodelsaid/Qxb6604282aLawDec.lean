/-
  zzB58Decode ON EVERY TEXT THAT THE ENCODER WRITES; THE WALK OF THE LAW OVER IT.
-/
import Derived.Test.Qxb6604282aWalkDec
namespace Go.Proofs.Qxb6604282a.Dec
open Go.ChangeShapes Go.WideShapes Go.ChangeAt Go.RowKit
open Go.Proofs.Qxb6604282a.Num Go.Proofs.Qxb6604282a.WalkBase Go.Proofs.Qxb6604282a.WalkEnc Go.Proofs.Qxb6604282a.Laws Go.Proofs.Qxb6604282a.LawEnc
set_option linter.unusedVariables false

set_option maxHeartbeats 1000000 in
theorem decode_ones (z : Nat) (S : ByteArray) (w : World) (hsz : S.size = z) (hN : z ≤ 8192) (h1 : ∀ j (h : j < S.size), j < z → (((S[j]'h).toNat : Int) == 49) = true) :
    Calls Try.prog 9 #[.string S] w fun e w' => (∃ g, e = .returned (.tuple #[.slice (some ⟨g, 0, none⟩) z z, .bool true]) ∧ Own w.heap.size w' g (List.replicate z 0) z) ∧ Below w.heap.size w w' := by
  obtain ⟨i0, hi, hq0, hq1, hq2⟩ := info_parts info5
  have H1 : Hid (∀ j (h : j < S.size), j < z → (((S[j]'h).toNat : Int) == 49) = true) := h1
  have hz1 : S.size ≤ z := by omega
  have hz2 : z ≤ S.size := by omega
  clear h1 hsz
  go_enter Try.func9, Try.ntmps9
  go_wp2
  go_loop [4] (fun i => ∃ k : Nat, k ≤ z ∧ i = .int .i64 (k : Int)) (fun i => z - (intOf i).toNat)
  case atStart => exact ⟨0, by omega, rfl⟩
  case round =>
    obtain ⟨k, hk, rfl⟩ := hrel
    by_cases hlt : k < z
    · have hkS : k < S.size := by omega
      have tk := H1.out k hkS hlt
      go_wp2
      go_round
      case rel => exact ⟨k + 1, by omega, by go_num⟩
      case measure => simp [intOf]; omega
    · obtain rfl : z = k := by omega
      go_wp2_with (at_make; refine wpList_make_full _ rfl _ _ 22 rfl w.heap.size 5 i0 (.int .u8 0) 1 Try.underlying22 hi hq0 hq1 _ _ _ _ S.size rfl rfl rfl rfl ?b4 ?b5 (Nat.le_refl _) ?_)
      case b4 => first | (rw [hq2]; omega) | omega
      case b5 => unfold maxLen; omega
      intro w1 hown1 hgrow1
      have hB : Below w.heap.size w w1 := (Below.refl _ _).grown hgrow1 (Nat.le_refl _) (fun k h => by cases h)
      clear hown1 hgrow1
      go_wp2
      refine wp_loop_rounds 1 ?_
      rw [rounds_succ]
      go_wp2_with (at_make; refine wpList_make_full _ rfl _ _ 22 rfl w.heap.size 5 i0 (.int .u8 0) 1 Try.underlying22 hi hq0 hq1 _ _ _ _ z rfl rfl (by omega) (by omega) ?b6 ?b7 hB.size ?_)
      case b6 => first | (rw [hq2]; omega) | omega
      case b7 => unfold maxLen; omega
      intro w2 hown2 hgrow2
      have HG : Hid (Own w.heap.size w2 w1.heap.size (List.replicate z 0) z) := own_made hown2
      have hbel2 : Below w.heap.size w w2 := hB.grown hgrow2 hB.size (fun k h => by cases h)
      clear hown2 hgrow2 hB
      go_wp2
      refine wp_loop_rounds 1 ?_
      rw [rounds_succ]
      go_wp2
      go_ret2
      exact ⟨⟨w1.heap.size, rfl, HG.out⟩, hbel2⟩

theorem get_digit (z : Nat) (D : List Nat) (k : Nat) (h : k < D.reverse.length) (h' : z + k < (⟨(enc z D).toArray⟩ : ByteArray).size) : (((⟨(enc z D).toArray⟩ : ByteArray)[z + k]'h').toNat : Int) = (al D.reverse[k] : Int) := by
  rw [get_enc]
  simp only [enc]
  rw [List.getElem_append_right (by simp)]
  simp [al]

theorem decode_any (z : Nat) (D : List Nat) (v : Nat) (w : World) (hI : Inv 58 D v) (hN : z + D.length ≤ 8192) :
    Calls Try.prog 9 #[.string ⟨(enc z D).toArray⟩] w fun e w' => (∃ A g, e = .returned (.tuple #[.slice (some ⟨g, 0, none⟩) (z + A.length) (z + A.length), .bool true]) ∧ Inv 256 A v ∧ Own w.heap.size w' g (List.replicate z 0 ++ A.reverse) (z + A.length)) ∧ Below w.heap.size w w' := by
  have hones : ∀ j (h : j < (⟨(enc z D).toArray⟩ : ByteArray).size), j < z → ((((⟨(enc z D).toArray⟩ : ByteArray)[j]'h).toNat : Int) == 49) = true := by
    intro j h hj
    rw [enc_ones z D j hj h]
    rfl
  by_cases hL : D.length = 0
  · obtain rfl : D = [] := List.eq_nil_of_length_eq_zero hL
    refine (decode_ones z _ w (by rw [size_enc]; simp) (by simpa using hN) hones).mono ?_
    rintro e w' ⟨⟨g, rfl, hown⟩, hbel⟩
    refine ⟨⟨[], g, by simp, ?_, by simpa using hown⟩, hbel⟩
    have : v = 0 := by rw [← hI.2.1]; rfl
    rw [this]
    exact ⟨by simp, rfl, .inl rfl⟩
  · have hlen : D.reverse.length = D.length := List.length_reverse
    have h := decode_main z D.reverse _ w (by rw [size_enc, hlen]) (by rw [hlen]; exact hN) (by rw [hlen]; omega) (fun d hd => hI.1 d (List.mem_reverse.1 hd)) hones
      (fun h => by
        have h3 := enc_stop z D _ hI h
        have h4 : ((⟨(enc z D).toArray⟩ : ByteArray)[z]).toNat ≠ 49 := fun e => h3 (UInt8.toNat_inj.1 e)
        simp only [beq_eq_false_iff_ne, ne_eq]
        omega)
      (fun k h h' => get_digit z D k h h')
    rw [val_eq, List.reverse_reverse, hI.2.1] at h
    exact h

/-! ### the law -/
theorem bytes6 (a : Option Addr) (n c : Nat) (w : World) (h : n ≤ 1048576) : Calls Try.prog 6 #[.slice a n c] w fun e w' => e = .returned (.bool true) ∧ w' = w := by
  go_enter Try.func6, Try.ntmps6
  go_wp2
  go_ret
  exact ⟨rfl, rfl⟩

theorem model_big (a : Option Addr) (n c : Nat) (w : World) (hs : n ≤ maxLen) (h : 4096 < n) : Calls Try.prog 3 #[.slice a n c] w fun e w' => e = .returned (.bool true) ∧ Below w.heap.size w w' := by
  unfold maxLen at hs
  by_cases hb : 1048576 < n
  · go_enter Try.func3, Try.ntmps3
    go_wp2
    go_ret
    exact ⟨rfl, Below.refl _ _⟩
  · go_enter Try.func3, Try.ntmps3
    go_wp2
    go_ret
    exact ⟨rfl, Below.refl _ _⟩

set_option maxHeartbeats 1000000 in
theorem model_empty (a : Option Addr) (cap : Nat) (w : World) (h : In w a 0 cap []) :
    Calls Try.prog 3 #[.slice a 0 cap] w fun e w' => e = .returned (.bool true) ∧ Below w.heap.size w w' := by
  have HI : Hid (In w a 0 cap []) := h
  clear h
  go_enter Try.func3, Try.ntmps3
  go_wp2_with fail
  refine (bytes6 _ _ _ _ (by omega)).mono ?_
  rintro e w1 ⟨rfl, rfl⟩
  go_wp2_with fail
  refine (clone_empty a cap _ HI.out).mono ?_
  rintro e w2 ⟨⟨ao, rfl, harg⟩, hbel⟩
  have HArg : Hid (Arg w2 (.slice ao 0 0) []) := harg
  clear harg
  go_wp2_with fail
  refine (ZZ_any [] (by simp) (by simp) _ _ HArg.out).mono ?_
  rintro e w3 ⟨⟨D, hI, rfl⟩, hbel3⟩
  obtain rfl : D = [] := Inv_unique 58 (by omega) D [] 0 hI Inv_zero
  have HD := decode_any (lz 0 []) [] 0 w3 Inv_zero (by simp [lz])
  have HD' : Hid (Calls Try.prog 9 #[.string ⟨#[]⟩] w3 fun e w' => (∃ A g, e = .returned (.tuple #[.slice (some ⟨g, 0, none⟩) (0 + A.length) (0 + A.length), .bool true]) ∧ Inv 256 A 0 ∧ Own w3.heap.size w' g (List.replicate 0 0 ++ A.reverse) (0 + A.length)) ∧ Below w3.heap.size w3 w') := HD
  clear hI HD
  have hse : (⟨(enc (lz 0 []) []).toArray⟩ : ByteArray) = ⟨#[]⟩ := rfl
  rw [hse]
  clear hse
  have hB3 : Below w1.heap.size w1 w3 := hbel.trans (hbel3.mono hbel.size)
  clear hbel hbel3
  go_wp2_with fail
  refine HD'.out.mono ?_
  rintro e w4 ⟨⟨A, g, rfl, hA, hown⟩, hbel4⟩
  obtain rfl : A = [] := Inv_unique 256 (by omega) A [] 0 hA ⟨by simp, rfl, .inl rfl⟩
  have hB4 : Below w1.heap.size w1 w4 := hB3.trans (hbel4.mono hB3.size)
  clear hA hown hbel4 hB3
  go_wp2_with fail
  refine (equal_empty _ _ _).mono ?_
  rintro e w5 ⟨rfl, hbel5⟩
  have hB5 : Below w1.heap.size w1 w5 := hB4.trans (hbel5.mono hB4.size)
  clear hB4 hbel5
  go_wp2
  go_ret
  exact ⟨rfl, hB5⟩

set_option maxHeartbeats 1000000 in
theorem model_full (a : Option Addr) (len cap : Nat) (X : List Nat) (w : World) (h : In w a len cap X) (hpos : 0 < len) (hn : len ≤ 4096) :
    Calls Try.prog 3 #[.slice a len cap] w fun e w' => e = .returned (.bool true) ∧ Below w.heap.size w w' := by
  have HI : Hid (In w a len cap X) := h
  have HX : Hid (X.length = len) := h.1
  have HA : Hid (∀ x ∈ X, x < 256) := h.2.1
  clear h
  go_enter Try.func3, Try.ntmps3
  go_wp2_with fail
  refine (bytes6 _ _ _ _ (by omega)).mono ?_
  rintro e w1 ⟨rfl, rfl⟩
  go_wp2_with fail
  refine (clone_full a len cap X _ HI.out hpos hn).mono ?_
  rintro e w2 ⟨rfl, hown, hbel⟩
  have HO : Hid (Own w1.heap.size w2 w1.heap.size X len) := hown
  clear hown
  go_wp2_with fail
  refine (ZZ_any X HA.out (by rw [HX.out]; omega) _ _ (arg_own HX.out HO.out)).mono ?_
  rintro e w3 ⟨⟨D, hI, rfl⟩, hbel3⟩
  have HO3 : Hid (Own w1.heap.size w3 w1.heap.size X len) := HO.out.below hbel3 HO.out.lt.2
  have hB3 : Below w1.heap.size w1 w3 := hbel.trans (hbel3.mono hbel.size)
  have hlz := lz_le 0 X
  have hdl := (digits_len X D (X.length - lz 0 X) (by omega) HA.out hI).2
  rw [HX.out] at hlz hdl
  have hsz : (⟨(enc (lz 0 X) D).toArray⟩ : ByteArray).size ≤ 8192 := by rw [size_enc]; omega
  have HD : Hid (Calls Try.prog 9 #[.string ⟨(enc (lz 0 X) D).toArray⟩] w3 fun e w' => (∃ A g, e = .returned (.tuple #[.slice (some ⟨g, 0, none⟩) (lz 0 X + A.length) (lz 0 X + A.length), .bool true]) ∧ Inv 256 A (val 256 X) ∧ Own w3.heap.size w' g (List.replicate (lz 0 X) 0 ++ A.reverse) (lz 0 X + A.length)) ∧ Below w3.heap.size w3 w') := decode_any (lz 0 X) D _ w3 hI (by omega)
  obtain ⟨S, hS⟩ : ∃ S : ByteArray, (⟨(enc (lz 0 X) D).toArray⟩ : ByteArray) = S := ⟨_, rfl⟩
  rw [hS] at hsz HD ⊢
  clear hbel hbel3 HO hI hlz hdl hS
  go_wp2_with fail
  refine HD.out.mono ?_
  rintro e w4 ⟨⟨A, g, rfl, hA, hownG⟩, hbel4⟩
  have hback := back X A HA.out hA
  have hlenA : lz 0 X + A.length = len := by
    have h := congrArg List.length hback
    simp only [List.length_append, List.length_replicate, List.length_reverse] at h
    rw [HX.out] at h
    exact h
  rw [hback, hlenA] at hownG
  rw [hlenA]
  have HOG : Hid (Own w3.heap.size w4 g X len) := hownG
  have HO4 : Hid (Own w1.heap.size w4 w1.heap.size X len) := HO3.out.below hbel4 HO3.out.lt.2
  have hB4 : Below w1.heap.size w1 w4 := hB3.trans (hbel4.mono hB3.size)
  clear hback hlenA hA hownG hbel4 HO3 hB3 HD
  go_wp2_with fail
  refine (equal_rows g w1.heap.size len X _ HX.out (by omega) (fun j h => HOG.out.cell j h) (fun j h => HO4.out.cell j h)).mono ?_
  rintro e w5 ⟨rfl, hbel5⟩
  have hB5 : Below w1.heap.size w1 w5 := hB4.trans (hbel5.mono hB4.size)
  clear hB4 hbel5
  go_wp2
  go_ret
  exact ⟨rfl, hB5⟩

theorem model_any (a : Option Addr) (len cap : Nat) (zs : List Int) (w : World)
    (h : (a = none ∧ len = 0 ∧ cap = 0 ∧ zs = []) ∨
      ∃ x, a = some x ∧ len ≤ cap ∧ cap ≤ maxLen ∧ zs.length = cap ∧ (∀ i, i < zs.length → w.cell? (x.add i) = some (.int .u8 (zs.getD i 0))) ∧ ∀ n ∈ zs, (Lit.int .u8 n).wf = true) :
    Calls Try.prog 3 #[.slice a len cap] w fun e w' => e = .returned (.bool true) ∧ Below w.heap.size w w' := by
  obtain ⟨hm, X, hX⟩ := in_of_row w a len cap zs h
  by_cases hbig : 4096 < len
  · exact model_big a len cap w hm hbig
  by_cases h0 : len = 0
  · subst h0
    obtain rfl : X = [] := List.eq_nil_of_length_eq_zero hX.1
    exact model_empty a cap w hX
  · exact model_full a len cap X w hX (by omega) (by omega)
end Go.Proofs.Qxb6604282a.Dec
