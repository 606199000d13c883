/-
  THE WALKS OF THE LAWS ON LENGTH AND ON A LEADING NOUGHT.
-/
import Derived.Test.Qxb6604282aWalkEnc0
import Derived.Test.Qxb6604282aLaws
namespace Go.Proofs.Qxb6604282a.LawEnc
open Go.ChangeShapes Go.WideShapes Go.ChangeAt Go.RowKit
open Go.Proofs.Qxb6604282a.Num Go.Proofs.Qxb6604282a.WalkBase Go.Proofs.Qxb6604282a.WalkEnc Go.Proofs.Qxb6604282a.Laws
set_option linter.unusedVariables false

/-- What a slice of bytes that came in holds. -/
def In (w : World) (a : Option Addr) (len cap : Nat) (X : List Nat) : Prop :=
  X.length = len ∧ (∀ x ∈ X, x < 256) ∧ ((a = none ∧ len = 0 ∧ cap = 0) ∨ ∃ x, a = some x ∧ ∀ j (h : j < X.length), x.spot = none ∧ w.cell? ⟨x.block, x.off + j, none⟩ = some (.int .u8 (X[j] : Int)))

theorem in_of_row (w : World) (a : Option Addr) (len cap : Nat) (zs : List Int)
    (h : (a = none ∧ len = 0 ∧ cap = 0 ∧ zs = []) ∨
      ∃ x, a = some x ∧ len ≤ cap ∧ cap ≤ maxLen ∧ zs.length = cap ∧ (∀ i, i < zs.length → w.cell? (x.add i) = some (.int .u8 (zs.getD i 0))) ∧ ∀ n ∈ zs, (Lit.int .u8 n).wf = true) :
    len ≤ maxLen ∧ ∃ X, In w a len cap X := by
  rcases h with ⟨rfl, rfl, rfl, rfl⟩ | ⟨x, rfl, hl, hm, hz, hc, hw⟩
  · exact ⟨by omega, [], rfl, by simp, .inl ⟨rfl, rfl, rfl⟩⟩
  · have hlen : ((zs.take len).map Int.toNat).length = len := by simp; omega
    refine ⟨by omega, (zs.take len).map Int.toNat, hlen, ?_, .inr ⟨x, rfl, ?_⟩⟩
    · intro y hy
      obtain ⟨n, hn, rfl⟩ := List.mem_map.1 hy
      have := bounds_u8 (hw n (List.mem_of_mem_take hn))
      omega
    · intro j hj
      rw [hlen] at hj
      have hjz : j < zs.length := by omega
      have hcj := hc j hjz
      obtain ⟨b, off, spot⟩ := x
      have hs : spot = none := by simpa [Addr.add] using World.cell?_spot (hc 0 (by omega))
      subst hs
      have hb := bounds_u8 (hw zs[j] (List.getElem_mem hjz))
      have e : (((zs.take len).map Int.toNat)[j]'(by rw [hlen]; exact hj) : Int) = zs.getD j 0 := by
        simp [List.getD, hjz]
        omega
      refine ⟨rfl, ?_⟩
      rw [e, ← hcj, add_plain]

theorem clone_empty (a : Option Addr) (cap : Nat) (w : World) (h : In w a 0 cap []) :
    Calls Try.prog 7 #[.slice a 0 cap] w fun e w' => (∃ ao, e = .returned (.slice ao 0 0) ∧ Arg w' (.slice ao 0 0) []) ∧ Below w.heap.size w w' := by
  rcases h.2.2 with ⟨rfl, _, rfl⟩ | ⟨x, rfl, hc⟩
  · refine (clone_nil w).mono ?_
    rintro e w' ⟨rfl, rfl⟩
    exact ⟨⟨none, rfl, .inl ⟨rfl, rfl⟩⟩, Below.refl _ _⟩
  · refine (clone_row x 0 cap [] w rfl (by omega) (fun j h => by simp at h)).mono ?_
    rintro e w' ⟨rfl, hown, hbel⟩
    exact ⟨⟨_, rfl, .inr ⟨w.heap.size, rfl, hown.lt.2, fun j h => by simp at h⟩⟩, hbel⟩

theorem clone_full (a : Option Addr) (len cap : Nat) (X : List Nat) (w : World) (h : In w a len cap X) (hpos : 0 < len) (hn : len ≤ 4096) :
    Calls Try.prog 7 #[.slice a len cap] w fun e w' => e = .returned (.slice (some ⟨w.heap.size, 0, none⟩) len len) ∧ Own w.heap.size w' w.heap.size X len ∧ Below w.heap.size w w' := by
  rcases h.2.2 with ⟨_, h0, _⟩ | ⟨x, rfl, hc⟩
  · omega
  · exact clone_row x len cap X w h.1 hn hc

theorem arg_own {B : Nat} {w : World} {g n : Nat} {X : List Nat} (hX : X.length = n) (h : Own B w g X n) : Arg w (.slice (some ⟨g, 0, none⟩) n n) X :=
  .inr ⟨g, by rw [hX], h.lt.2, fun j hj => h.cell j hj⟩

theorem bytes11 (a : Option Addr) (n c : Nat) (w : World) (h : n ≤ 1048576) : Calls Try.prog 11 #[.slice a n c] w fun e w' => e = .returned (.bool true) ∧ w' = w := by
  go_enter Try.func11, Try.ntmps11
  go_wp2
  go_ret
  exact ⟨rfl, rfl⟩

theorem bounds_big (a : Option Addr) (n c : Nat) (w : World) (hs : n ≤ maxLen) (h : 4096 < n) : Calls Try.prog 4 #[.slice a n c] w fun e w' => e = .returned (.bool true) ∧ Below w.heap.size w w' := by
  unfold maxLen at hs
  by_cases hb : 1048576 < n
  · go_enter Try.func4, Try.ntmps4
    go_wp2
    go_ret
    exact ⟨rfl, Below.refl _ _⟩
  · go_enter Try.func4, Try.ntmps4
    go_wp2
    go_ret
    exact ⟨rfl, Below.refl _ _⟩

theorem bounds_empty (a : Option Addr) (cap : Nat) (w : World) (h : In w a 0 cap []) : Calls Try.prog 4 #[.slice a 0 cap] w fun e w' => e = .returned (.bool true) ∧ Below w.heap.size w w' := by
  have HI : Hid (In w a 0 cap []) := h
  clear h
  go_enter Try.func4, Try.ntmps4
  go_wp2_with fail
  refine (bytes11 _ _ _ _ (by omega)).mono ?_
  rintro e w1 ⟨rfl, rfl⟩
  go_wp2_with fail
  refine (clone_empty a cap _ HI.out).mono ?_
  rintro e w2 ⟨⟨ao, rfl, harg⟩, hbel⟩
  have HArg : Hid (Arg w2 (.slice ao 0 0) []) := harg
  clear harg
  go_wp2_with fail
  refine wp_loop_rounds 1 ?_
  rw [rounds_succ]
  go_wp2_with fail
  refine (ZZ_any [] (by simp) (by simp) _ _ HArg.out).mono ?_
  rintro e w3 ⟨⟨D, hI, rfl⟩, hbel3⟩
  obtain rfl : D = [] := Inv_unique 58 (by omega) D [] 0 hI Inv_zero
  clear hI
  have hB3 : Below w1.heap.size w1 w3 := hbel.trans (hbel3.mono hbel.size)
  have hse : (⟨(enc (lz 0 []) []).toArray⟩ : ByteArray) = ⟨#[]⟩ := rfl
  rw [hse]
  clear hse
  go_wp2
  refine wp_loop_rounds 1 ?_
  rw [rounds_succ]
  go_wp2
  go_ret
  exact ⟨rfl, hB3⟩

/-- What the law asks of the text. -/
theorem text_facts (X D : List Nat) (z len : Nat) (S : ByteArray) (hX : X.length = len) (hz : z = lz 0 X) (hzl : z ≤ len) (hall : ∀ x ∈ X, x < 256) (hI : Inv 58 D (val 256 X)) (hS : (⟨(enc z D).toArray⟩ : ByteArray) = S) :
    (len : Int) ≤ (S.size : Int) ∧ (S.size : Int) ≤ (z : Int) + (137 * ((len : Int) - (z : Int)) + 99) / 100 ∧
      (∀ j (h : j < S.size), j < z → (((S[j]'h).toNat : Int) == 49) = true) ∧ (∀ h : z < S.size, (((S[z]'h).toNat : Int) == 49) = false) := by
  subst hS
  have h1 := size_enc z D
  have h2 := digits_len X D (len - z) (by rw [← hz]; omega) hall hI
  refine ⟨by omega, by omega, ?_, ?_⟩
  · intro j h hj
    rw [enc_ones z D j hj h]
    rfl
  · intro h
    have h3 := enc_stop z D _ hI h
    have h4 : ((⟨(enc z D).toArray⟩ : ByteArray)[z]).toNat ≠ 49 := fun e => h3 (UInt8.toNat_inj.1 e)
    simp only [beq_eq_false_iff_ne, ne_eq]
    omega

set_option maxHeartbeats 1000000 in
theorem bounds_full (a : Option Addr) (len cap : Nat) (X : List Nat) (w : World) (h : In w a len cap X) (hpos : 0 < len) (hn : len ≤ 4096) :
    Calls Try.prog 4 #[.slice a len cap] w fun e w' => e = .returned (.bool true) ∧ Below w.heap.size w w' := by
  have HI : Hid (In w a len cap X) := h
  have HX : Hid (X.length = len) := h.1
  have HA : Hid (∀ x ∈ X, x < 256) := h.2.1
  clear h
  obtain ⟨z, hz⟩ : ∃ z, z = lz 0 X := ⟨_, rfl⟩
  have hzl : z ≤ len := by rw [hz, ← HX.out]; exact lz_le 0 X
  have HZ : Hid (z = lz 0 X) := hz
  clear hz
  have d12 : decide (4096 < (len : Int)) = false := decide_eq_false (by omega)
  go_enter Try.func4, Try.ntmps4
  go_wp2_with fail
  refine (bytes11 _ _ _ _ (by omega)).mono ?_
  rintro e w1 ⟨rfl, rfl⟩
  go_wp2_with fail
  refine (clone_full a len cap X _ HI.out hpos hn).mono ?_
  rintro e w2 ⟨rfl, hown, hbel⟩
  have HO : Hid (Own w1.heap.size w2 w1.heap.size X len) := hown
  have hsz2 : w1.heap.size < w2.heap.size := hown.lt.2
  clear hown
  generalize hgg : w1.heap.size = g at *
  have HGg : Hid (w1.heap.size = g) := hgg
  clear hgg
  go_wp2_with fail
  go_loop [3] (fun i => ∃ k : Nat, k ≤ z ∧ i = .int .i64 (k : Int)) (fun i => z - (intOf i).toNat)
  case atStart => exact ⟨0, by omega, rfl⟩
  case round =>
    obtain ⟨k, hk, rfl⟩ := hrel
    by_cases hlt : k < z
    · have hkX : k < X.length := by rw [HX.out]; omega
      have hcell : w2.cell? ⟨g, k, none⟩ = some (.int .u8 0) := by rw [HO.out.cell k hkX, lz_get 0 X k hkX (by rw [← HZ.out]; exact hlt)]; rfl
      go_wp2
      go_round
      case rel => exact ⟨k + 1, by omega, by go_num⟩
      case measure => simp [intOf]; omega
    · obtain rfl : z = k := by omega
      have hexit : (z < len ∧ ∃ u : Int, w2.cell? ⟨g, z, none⟩ = some (.int .u8 u) ∧ (u == 0) = false) ∨ len ≤ z := by
        by_cases hzn : z < len
        · have hzX : z < X.length := by rw [HX.out]; exact hzn
          have hne : X[z] ≠ 0 := by
            have h := lz_stop 0 X (by rw [← HZ.out]; exact hzX)
            simpa [← HZ.out] using h
          exact .inl ⟨hzn, _, HO.out.cell z hzX, by simp; omega⟩
        · exact .inr (by omega)
      rcases hexit with ⟨hzn, u, hcz, hu⟩ | hzn
      · go_wp2_with fail
        refine (ZZ_any X HA.out (by rw [HX.out]; omega) _ _ (arg_own HX.out HO.out)).mono ?_
        rintro e w3 ⟨⟨D, hI, rfl⟩, hbel3⟩
        have hB3 : Below g w1 w3 := hbel.trans (hbel3.mono (Nat.le_of_lt hsz2))
        rw [← HZ.out]
        obtain ⟨S, hS⟩ : ∃ S : ByteArray, (⟨(enc z D).toArray⟩ : ByteArray) = S := ⟨_, rfl⟩
        rw [hS]
        obtain ⟨s1, s2, s3, s4⟩ := text_facts X D z len S HX.out HZ.out hzl HA.out hI hS
        have S3 : Hid (∀ j (h : j < S.size), j < z → (((S[j]'h).toNat : Int) == 49) = true) := s3
        have S4 : Hid (∀ h : z < S.size, (((S[z]'h).toNat : Int) == 49) = false) := s4
        clear s3 s4 hS hI hbel hbel3
        go_wp2
        go_loop [6] (fun i => ∃ k : Nat, k ≤ z ∧ i = .int .i64 (k : Int)) (fun i => z - (intOf i).toNat)
        case atStart => exact ⟨0, by omega, rfl⟩
        case round =>
          obtain ⟨k, hk2, rfl⟩ := hrel
          by_cases hkl : k < z
          · have hkS : k < S.size := by omega
            have t49 := S3.out k hkS hkl
            go_wp2
            go_round
            case rel => exact ⟨k + 1, by omega, by go_num⟩
            case measure => simp [intOf]; omega
          · obtain rfl : z = k := by omega
            by_cases hzS : z < S.size
            · have t49 := S4.out hzS
              go_wp2
              go_ret
              exact ⟨ret_bool (by simp), by rw [HGg.out]; exact hB3⟩
            · go_wp2
              go_ret
              exact ⟨ret_bool (by simp), by rw [HGg.out]; exact hB3⟩
      · go_wp2_with fail
        refine (ZZ_any X HA.out (by rw [HX.out]; omega) _ _ (arg_own HX.out HO.out)).mono ?_
        rintro e w3 ⟨⟨D, hI, rfl⟩, hbel3⟩
        have hB3 : Below g w1 w3 := hbel.trans (hbel3.mono (Nat.le_of_lt hsz2))
        rw [← HZ.out]
        obtain ⟨S, hS⟩ : ∃ S : ByteArray, (⟨(enc z D).toArray⟩ : ByteArray) = S := ⟨_, rfl⟩
        rw [hS]
        obtain ⟨s1, s2, s3, s4⟩ := text_facts X D z len S HX.out HZ.out hzl HA.out hI hS
        have S3 : Hid (∀ j (h : j < S.size), j < z → (((S[j]'h).toNat : Int) == 49) = true) := s3
        have S4 : Hid (∀ h : z < S.size, (((S[z]'h).toNat : Int) == 49) = false) := s4
        clear s3 s4 hS hI hbel hbel3
        go_wp2
        go_loop [6] (fun i => ∃ k : Nat, k ≤ z ∧ i = .int .i64 (k : Int)) (fun i => z - (intOf i).toNat)
        case atStart => exact ⟨0, by omega, rfl⟩
        case round =>
          obtain ⟨k, hk2, rfl⟩ := hrel
          by_cases hkl : k < z
          · have hkS : k < S.size := by omega
            have t49 := S3.out k hkS hkl
            go_wp2
            go_round
            case rel => exact ⟨k + 1, by omega, by go_num⟩
            case measure => simp [intOf]; omega
          · obtain rfl : z = k := by omega
            by_cases hzS : z < S.size
            · have t49 := S4.out hzS
              go_wp2
              go_ret
              exact ⟨ret_bool (by simp), by rw [HGg.out]; exact hB3⟩
            · go_wp2
              go_ret
              exact ⟨ret_bool (by simp), by rw [HGg.out]; exact hB3⟩

theorem bounds_any (a : Option Addr) (len cap : Nat) (zs : List Int) (w : World)
    (h : (a = none ∧ len = 0 ∧ cap = 0 ∧ zs = []) ∨
      ∃ x, a = some x ∧ len ≤ cap ∧ cap ≤ maxLen ∧ zs.length = cap ∧ (∀ i, i < zs.length → w.cell? (x.add i) = some (.int .u8 (zs.getD i 0))) ∧ ∀ n ∈ zs, (Lit.int .u8 n).wf = true) :
    Calls Try.prog 4 #[.slice a len cap] w fun e w' => e = .returned (.bool true) ∧ Below w.heap.size w w' := by
  obtain ⟨hm, X, hX⟩ := in_of_row w a len cap zs h
  by_cases hbig : 4096 < len
  · exact bounds_big a len cap w hm hbig
  by_cases h0 : len = 0
  · subst h0
    obtain rfl : X = [] := List.eq_nil_of_length_eq_zero hX.1
    exact bounds_empty a cap w hX
  · exact bounds_full a len cap X w hX (by omega) (by omega)
end Go.Proofs.Qxb6604282a.LawEnc
