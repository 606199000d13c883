/-
  PLAIN MATHEMATICS FOR THE base58 LAWS: numbers in base B, the lowest digit first. No Go in sight.
-/
namespace Go.Proofs.Qxb6604282a.Num
set_option linter.unusedVariables false

/-- The value of a list of digits in base B, the lowest first. -/
def V (B : Nat) : List Nat → Nat
  | [] => 0
  | d :: ds => d + B * V B ds

theorem V_append (B : Nat) : ∀ (A C : List Nat), V B (A ++ C) = V B A + B ^ A.length * V B C
  | [], C => by simp [V]
  | a :: A, C => by
    simp only [List.cons_append, V, V_append B A C, List.length_cons, Nat.pow_succ, Nat.mul_add, Nat.add_assoc]
    rw [Nat.mul_comm (B ^ A.length) B, Nat.mul_assoc]

theorem V_lt (B : Nat) : ∀ (A : List Nat), (∀ d ∈ A, d < B) → V B A < B ^ A.length
  | [], _ => by simp [V]
  | a :: A, h => by
    have ih := V_lt B A (fun d hd => h d (List.mem_cons_of_mem _ hd))
    have ha := h a (List.mem_cons_self ..)
    simp only [V, List.length_cons, Nat.pow_succ]
    have : B * (V B A + 1) ≤ B * B ^ A.length := Nat.mul_le_mul_left _ ih
    rw [Nat.mul_add, Nat.mul_one] at this
    rw [Nat.mul_comm (B ^ A.length) B]
    omega

/-- What the digits say: each is a digit, they make up v, and the highest is not nought. -/
def Inv (B : Nat) (D : List Nat) (v : Nat) : Prop := (∀ d ∈ D, d < B) ∧ V B D = v ∧ (D.length = 0 ∨ B ^ (D.length - 1) ≤ v)

theorem pow_mono {B a b : Nat} (hB : 1 ≤ B) (h : a ≤ b) : B ^ a ≤ B ^ b := Nat.pow_le_pow_right hB h

/-- Digits of one length are fixed by their value. -/
theorem V_inj (B : Nat) : ∀ (A C : List Nat), A.length = C.length → (∀ d ∈ A, d < B) → (∀ d ∈ C, d < B) → V B A = V B C → A = C
  | [], [], _, _, _, _ => rfl
  | [], _ :: _, h, _, _, _ => by simp at h
  | _ :: _, [], h, _, _, _ => by simp at h
  | a :: A, c :: C, h, hA, hC, e => by
    have ha := hA a (List.mem_cons_self ..)
    have hc := hC c (List.mem_cons_self ..)
    simp only [V] at e
    have hm : (a + B * V B A) % B = (c + B * V B C) % B := by rw [e]
    rw [Nat.add_mul_mod_self_left, Nat.add_mul_mod_self_left, Nat.mod_eq_of_lt ha, Nat.mod_eq_of_lt hc] at hm
    subst hm
    have e' : B * V B A = B * V B C := by omega
    have e2 : V B A = V B C := Nat.eq_of_mul_eq_mul_left (by omega) e'
    rw [V_inj B A C (by simpa using h) (fun d hd => hA d (List.mem_cons_of_mem _ hd)) (fun d hd => hC d (List.mem_cons_of_mem _ hd)) e2]

/-- The canonical digits are fixed by the value. -/
theorem Inv_unique (B : Nat) (hB : 2 ≤ B) (A C : List Nat) (v : Nat) (hA : Inv B A v) (hC : Inv B C v) : A = C := by
  have lA := V_lt B A hA.1
  have lC := V_lt B C hC.1
  rw [hA.2.1] at lA
  rw [hC.2.1] at lC
  have hlen : A.length = C.length := by
    rcases Nat.lt_trichotomy A.length C.length with h | h | h
    · exfalso
      have := pow_mono (B := B) (by omega) (show A.length ≤ C.length - 1 by omega)
      rcases hC.2.2 with h' | h' <;> omega
    · exact h
    · exfalso
      have := pow_mono (B := B) (by omega) (show C.length ≤ A.length - 1 by omega)
      rcases hA.2.2 with h' | h' <;> omega
  exact V_inj B A C hlen hA.1 hC.1 (by rw [hA.2.1, hC.2.1])

/-- ONE STEP OF THE INNER LOOP: 'carry += M * D[i]; D[i] = carry % B; carry /= B'. -/
def Mid (B M : Nat) (D : List Nat) (i c T : Nat) : Prop := V B (D.take i) + B ^ i * (c + M * V B (D.drop i)) = T

theorem take_set_succ (D : List Nat) (i u : Nat) (h : i < D.length) : (D.set i u).take (i + 1) = D.take i ++ [u] := by
  rw [List.take_succ_eq_append_getElem (by simpa using h), List.take_set_of_le (Nat.le_refl _)]
  simp
theorem drop_set_succ (D : List Nat) (i u : Nat) : (D.set i u).drop (i + 1) = D.drop (i + 1) := by
  rw [List.drop_set_of_lt (by omega)]

theorem Mid_step (B M : Nat) (D : List Nat) (i c T : Nat) (h : i < D.length) (hm : Mid B M D i c T) :
    Mid B M (D.set i ((c + M * D[i]) % B)) (i + 1) ((c + M * D[i]) / B) T := by
  unfold Mid at *
  rw [take_set_succ D i _ h, drop_set_succ, V_append, List.length_take, Nat.min_eq_left (by omega)]
  rw [List.drop_eq_getElem_cons h] at hm
  simp only [V] at hm ⊢
  rw [← hm]
  have e := Nat.div_add_mod (c + M * D[i]) B
  generalize (c + M * D[i]) / B = q at *
  generalize (c + M * D[i]) % B = r at *
  rw [Nat.pow_succ, Nat.mul_add M, ← Nat.add_assoc c, ← e]
  generalize V B (List.drop (i + 1) D) = y
  generalize V B (List.take i D) = x
  generalize B ^ i = p
  simp only [Nat.mul_add, Nat.mul_zero, Nat.add_zero, ← Nat.mul_assoc]
  have h1 : p * M * B * y = p * B * M * y := by rw [Nat.mul_assoc p M B, Nat.mul_comm M B, ← Nat.mul_assoc]
  omega

theorem carry_lt (B M c d : Nat) (hc : c < M) (hd : d < B) : (c + M * d) / B < M := by
  rw [Nat.div_lt_iff_lt_mul (by omega)]
  have : M * (d + 1) ≤ M * B := Nat.mul_le_mul_left _ hd
  rw [Nat.mul_add, Nat.mul_one] at this
  omega

theorem all_set (B : Nat) (D : List Nat) (i u : Nat) (h : ∀ d ∈ D, d < B) (hu : u < B) : ∀ d ∈ D.set i u, d < B := by
  intro d hd
  rcases List.mem_or_eq_of_mem_set hd with h' | h'
  · exact h d h'
  · rw [h']; exact hu

/-- ONE STEP OF THE LOOP THAT PUSHES: 'D = append(D, c % B); c /= B'. -/
def Push (B : Nat) (D : List Nat) (c T : Nat) : Prop := V B D + B ^ D.length * c = T ∧ (∀ d ∈ D, d < B) ∧ (D.length = 0 ∨ B ^ (D.length - 1) ≤ T)

theorem Push_step (B : Nat) (D : List Nat) (c T : Nat) (hB : 2 ≤ B) (hc : 0 < c) (h : Push B D c T) : Push B (D ++ [c % B]) (c / B) T := by
  obtain ⟨h1, h2, h3⟩ := h
  have hmod : c % B < B := Nat.mod_lt _ (by omega)
  refine ⟨?_, ?_, ?_⟩
  · rw [V_append, List.length_append, List.length_singleton, Nat.pow_succ]
    simp only [V, Nat.mul_zero, Nat.add_zero]
    have e := Nat.div_add_mod c B
    rw [Nat.mul_assoc, Nat.add_assoc, ← Nat.mul_add, Nat.add_comm (c % B), e]
    exact h1
  · intro d hd
    rcases List.mem_append.1 hd with h | h
    · exact h2 d h
    · rw [List.mem_singleton.1 h]; exact hmod
  · right
    have : B ^ D.length * 1 ≤ B ^ D.length * c := Nat.mul_le_mul_left _ hc
    simp only [List.length_append, List.length_singleton, Nat.add_sub_cancel]
    omega

theorem Push_pow (B : Nat) (D : List Nat) (c T : Nat) (hc : 0 < c) (h : Push B D c T) : B ^ D.length ≤ T := by
  have : B ^ D.length * 1 ≤ B ^ D.length * c := Nat.mul_le_mul_left _ hc
  have := h.1
  omega
theorem Push_end (B : Nat) (D : List Nat) (T : Nat) (h : Push B D 0 T) : Inv B D T := by
  obtain ⟨h1, h2, h3⟩ := h
  exact ⟨h2, by simpa using h1, h3⟩

/-- The inner loop begins, and ends. -/
theorem Mid_start (B M : Nat) (D : List Nat) (v x : Nat) (h : Inv B D v) : Mid B M D 0 x (v * M + x) := by
  unfold Mid
  simp only [List.take_zero, V, List.drop_zero, Nat.pow_zero, Nat.one_mul, Nat.zero_add, h.2.1]
  rw [Nat.mul_comm v M]
  omega
theorem Mid_end (B M : Nat) (D : List Nat) (c v x : Nat) (hM : 1 ≤ M) (hall : ∀ d ∈ D, d < B) (hlow : D.length = 0 ∨ B ^ (D.length - 1) ≤ v) (h : Mid B M D D.length c (v * M + x)) : Push B D c (v * M + x) := by
  unfold Mid at h
  rw [List.take_length, List.drop_length] at h
  simp only [V, Nat.mul_zero, Nat.add_zero] at h
  refine ⟨h, hall, ?_⟩
  rcases hlow with h' | h'
  · exact .inl h'
  · right
    have : v * 1 ≤ v * M := Nat.mul_le_mul_left _ hM
    omega

/-- The value of bytes, the highest first. -/
def val (M : Nat) (X : List Nat) : Nat := X.foldl (fun v x => v * M + x) 0
theorem val_snoc (M : Nat) (X : List Nat) (x : Nat) : val M (X ++ [x]) = val M X * M + x := by simp [val]
theorem val_take_succ (M : Nat) (X : List Nat) (k : Nat) (h : k < X.length) : val M (X.take (k + 1)) = val M (X.take k) * M + X[k] := by
  rw [List.take_succ_eq_append_getElem h, val_snoc]
/-- It is the value of the digits turned round. -/
theorem val_eq (M : Nat) (X : List Nat) : val M X = V M X.reverse := by
  have g : ∀ (L : List Nat), val M L.reverse = V M L := by
    intro L
    induction L with
    | nil => rfl
    | cons x L ih => rw [List.reverse_cons, val_snoc, ih, V, Nat.mul_comm]; omega
  have := g X.reverse
  rwa [List.reverse_reverse] at this
theorem val_lt (M : Nat) (X : List Nat) (h : ∀ x ∈ X, x < M) : val M X < M ^ X.length := by
  rw [val_eq]
  have := V_lt M X.reverse (fun d hd => h d (List.mem_reverse.1 hd))
  rwa [List.length_reverse] at this

/-- How many noughts it begins with. -/
def lz (a : Nat) : List Nat → Nat
  | [] => 0
  | x :: X => if x = a then lz a X + 1 else 0
theorem lz_le (a : Nat) : ∀ X, lz a X ≤ X.length
  | [] => Nat.le_refl _
  | x :: X => by
    simp only [lz]
    split
    · have := lz_le a X
      simp only [List.length_cons]
      omega
    · omega
theorem lz_get (a : Nat) : ∀ (X : List Nat) (j : Nat) (h : j < X.length), j < lz a X → X[j] = a
  | x :: X, 0, _, hj => by
    simp only [lz] at hj
    split at hj
    · simpa using ‹x = a›
    · omega
  | x :: X, j + 1, h, hj => by
    simp only [lz] at hj
    split at hj
    · simpa using lz_get a X j (by simpa using h) (by omega)
    · omega
theorem lz_stop (a : Nat) : ∀ (X : List Nat) (h : lz a X < X.length), X[lz a X] ≠ a
  | x :: X, h => by
    by_cases hx : x = a
    · have e : lz a (x :: X) = lz a X + 1 := by simp [lz, hx]
      have h' : lz a X < X.length := by rw [e] at h; simpa using h
      have := lz_stop a X h'
      simp only [e, List.getElem_cons_succ]
      exact this
    · have e : lz a (x :: X) = 0 := by simp [lz, hx]
      simp only [e, List.getElem_cons_zero]
      exact hx
theorem take_lz (a : Nat) : ∀ X, X.take (lz a X) = List.replicate (lz a X) a
  | [] => rfl
  | x :: X => by
    by_cases hx : x = a
    · have e : lz a (x :: X) = lz a X + 1 := by simp [lz, hx]
      rw [e, List.take_succ_cons, take_lz a X, hx, List.replicate_succ]
    · have e : lz a (x :: X) = 0 := by simp [lz, hx]
      rw [e]; rfl
theorem lz_cons (a : Nat) (X : List Nat) : lz a (a :: X) = lz a X + 1 := by simp [lz]
theorem val_zeros (M k : Nat) : val M (List.replicate k 0) = 0 := by
  induction k with
  | zero => rfl
  | succ k ih => rw [List.replicate_succ', val_snoc, ih]; omega
theorem val_append (M : Nat) (A C : List Nat) : val M (A ++ C) = val M A * M ^ C.length + val M C := by
  rw [val_eq, val_eq M A, val_eq M C, List.reverse_append, V_append, List.length_reverse, Nat.mul_comm]
  omega
theorem val_drop_lz (M : Nat) (X : List Nat) : val M (X.drop (lz 0 X)) = val M X := by
  have := val_append M (X.take (lz 0 X)) (X.drop (lz 0 X))
  rw [List.take_append_drop, take_lz, val_zeros] at this
  omega

/-- 256^100 <= 58^137. -/
theorem big : (256 : Nat) ^ 100 ≤ 58 ^ 137 := by decide
theorem pow_lift (m L : Nat) (h : 137 * m ≤ 100 * L) : 256 ^ m ≤ 58 ^ L := by
  have h1 : (256 ^ m) ^ 100 ≤ (58 ^ L) ^ 100 := by
    rw [← Nat.pow_mul, ← Nat.pow_mul]
    calc 256 ^ (m * 100) = (256 ^ 100) ^ m := by rw [← Nat.pow_mul, Nat.mul_comm]
      _ ≤ (58 ^ 137) ^ m := Nat.pow_le_pow_left big m
      _ = 58 ^ (137 * m) := by rw [← Nat.pow_mul]
      _ ≤ 58 ^ (L * 100) := pow_mono (by omega) (by omega)
  exact (Nat.pow_le_pow_iff_left (by omega)).1 h1

/-- The room suffices: m bytes take at most 137 m / 100 + 1 digits. -/
theorem room (m L T : Nat) (hT : T < 256 ^ m) (hp : 58 ^ L ≤ T) : L + 1 ≤ m * 137 / 100 + 1 := by
  rcases Nat.lt_or_ge (m * 137 / 100) L with h | h
  · exfalso
    have := pow_lift m L (by omega)
    omega
  · omega
end Go.Proofs.Qxb6604282a.Num
