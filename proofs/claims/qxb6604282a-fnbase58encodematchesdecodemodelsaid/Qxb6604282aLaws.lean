/-
  PLAIN LAWS ON THE TEXT THAT base58Encode WRITES. No walk in sight.
-/
import Derived.Test.Qxb6604282aWalkEnc
namespace Go.Proofs.Qxb6604282a.Laws
open Go.Proofs.Qxb6604282a.Num Go.Proofs.Qxb6604282a.WalkEnc
set_option linter.unusedVariables false

theorem alpha_ne : ∀ d : Fin 58, d.val ≠ 0 → alpha d.val ≠ 49 := by decide
theorem alpha_not_one (d : Nat) (h : d < 58) (h0 : d ≠ 0) : alpha d ≠ 49 := alpha_ne ⟨d, h⟩ h0

/-- The highest digit is not nought. -/
theorem last_digit (B : Nat) (D : List Nat) (v : Nat) (h : Inv B D v) (hL : 0 < D.length) : ∃ D' t, D = D' ++ [t] ∧ t ≠ 0 ∧ t < B := by
  obtain ⟨D', t, rfl⟩ : ∃ D' t, D = D' ++ [t] := by
    refine ⟨D.dropLast, D.getLast (by intro h; rw [h] at hL; simp at hL), ?_⟩
    rw [List.dropLast_concat_getLast]
  refine ⟨D', t, rfl, ?_, h.1 t (by simp)⟩
  intro ht
  subst ht
  have h1 := h.2.1
  rw [V_append] at h1
  simp only [V, Nat.mul_zero, Nat.add_zero] at h1
  have h2 := V_lt B D' (fun d hd => h.1 d (by simp [hd]))
  rcases h.2.2 with h3 | h3
  · simp at h3
  · simp only [List.length_append, List.length_singleton, Nat.add_sub_cancel] at h3
    omega

theorem val_head (M c : Nat) (r : List Nat) (hc : c ≠ 0) : M ^ r.length ≤ val M (c :: r) := by
  have h := val_append M [c] r
  have h1 : val M [c] = c := by simp [val]
  rw [h1, List.singleton_append] at h
  have : 1 * M ^ r.length ≤ c * M ^ r.length := Nat.mul_le_mul_right _ (by omega)
  omega

/-- How many digits m bytes take. -/
theorem digits_len (X D : List Nat) (m : Nat) (hX : X.length = lz 0 X + m) (hall : ∀ x ∈ X, x < 256) (h : Inv 58 D (val 256 X)) : m ≤ D.length ∧ D.length ≤ (137 * m + 99) / 100 := by
  have hv := val_drop_lz 256 X
  have hlen : (X.drop (lz 0 X)).length = m := by rw [List.length_drop]; omega
  have hlt : val 256 X < 256 ^ m := by
    rw [← hv, ← hlen]
    exact val_lt 256 _ (fun x hx => hall x (List.mem_of_mem_drop hx))
  have hVlt : val 256 X < 58 ^ D.length := by rw [← h.2.1]; exact V_lt 58 D h.1
  constructor
  · by_cases hm : m = 0
    · omega
    · have hlz : lz 0 X < X.length := by omega
      have hne := lz_stop 0 X hlz
      have hd : X.drop (lz 0 X) = X[lz 0 X] :: X.drop (lz 0 X + 1) := List.drop_eq_getElem_cons hlz
      have hge := val_head 256 _ (X.drop (lz 0 X + 1)) hne
      rw [← hd, hv, List.length_drop] at hge
      rcases Nat.lt_or_ge D.length m with hlt' | hge'
      · exfalso
        have h1 : 58 ^ D.length ≤ 58 ^ (m - 1) := pow_mono (by omega) (by omega)
        have h2 : 58 ^ (m - 1) ≤ 256 ^ (m - 1) := Nat.pow_le_pow_left (by omega) _
        have e : X.length - (lz 0 X + 1) = m - 1 := by omega
        rw [e] at hge
        omega
      · exact hge'
  · rcases h.2.2 with h0 | h0
    · omega
    · by_cases hL : D.length = 0
      · omega
      rcases Nat.lt_or_ge ((137 * m + 99) / 100) D.length with hgt | hle
      · exfalso
        have := pow_lift m (D.length - 1) (by omega)
        omega
      · exact hle

theorem size_enc (z : Nat) (D : List Nat) : (⟨(enc z D).toArray⟩ : ByteArray).size = z + D.length := by
  show (enc z D).toArray.size = _
  rw [List.size_toArray, enc_len]
theorem get_enc (z : Nat) (D : List Nat) (j : Nat) (h : j < (⟨(enc z D).toArray⟩ : ByteArray).size) : (⟨(enc z D).toArray⟩ : ByteArray)[j] = (enc z D)[j]'(by rw [size_enc] at h; rw [enc_len]; exact h) := rfl
theorem enc_ones (z : Nat) (D : List Nat) (j : Nat) (hj : j < z) (h : j < (⟨(enc z D).toArray⟩ : ByteArray).size) : (⟨(enc z D).toArray⟩ : ByteArray)[j] = 49 := by
  rw [get_enc]
  simp only [enc]
  rw [List.getElem_append_left (by simpa using hj)]
  simp
theorem enc_stop (z : Nat) (D : List Nat) (v : Nat) (hI : Inv 58 D v) (h : z < (⟨(enc z D).toArray⟩ : ByteArray).size) : (⟨(enc z D).toArray⟩ : ByteArray)[z] ≠ 49 := by
  have hL : 0 < D.length := by rw [size_enc] at h; omega
  obtain ⟨D', t, rfl, ht, ht58⟩ := last_digit 58 D v hI hL
  rw [get_enc]
  simp only [enc]
  rw [List.getElem_append_right (by simp)]
  simp
  exact alpha_not_one t ht58 ht

/-- The text of a nought ahead is a '1' ahead. -/
theorem enc_cons (z : Nat) (D : List Nat) : enc (z + 1) D = 49 :: enc z D := by
  simp [enc, List.replicate_succ]
theorem val_cons_zero (X : List Nat) : val 256 (0 :: X) = val 256 X := by
  have h := val_append 256 [0] X
  have h1 : val 256 [0] = 0 := rfl
  rw [h1, List.singleton_append] at h
  omega
end Go.Proofs.Qxb6604282a.Laws
