/-
  PLAIN MATHEMATICS FOR THE NUMBER LAWS: decimal digits, no Go in sight.
-/
namespace Go.Proofs.Qxb6603968a.Num

/-- The byte of a decimal digit. -/
def db (d : Nat) : UInt8 := UInt8.ofNat (48 + d)
/-- The last k decimal digits of n as bytes, the most significant first. -/
def tl : Nat → Nat → List UInt8
  | 0, _ => []
  | k + 1, n => db (n / 10 ^ k % 10) :: tl k n

theorem tl_length : ∀ (k n : Nat), (tl k n).length = k
  | 0, _ => rfl
  | k + 1, n => by simp [tl, tl_length k n]

theorem db_toNat (d : Nat) (h : d < 10) : (db d).toNat = 48 + d := by
  unfold db
  rw [UInt8.toNat_ofNat']
  omega

def isDig (c : UInt8) : Bool := decide (48 ≤ c.toNat) && decide (c.toNat ≤ 57)
theorem isDig_iff (c : UInt8) : isDig c = true ↔ 48 ≤ c.toNat ∧ c.toNat ≤ 57 := by simp [isDig]

theorem tl_all : ∀ (k n : Nat), (tl k n).all isDig = true
  | 0, _ => rfl
  | k + 1, n => by
    have h : n / 10 ^ k % 10 < 10 := Nat.mod_lt _ (by omega)
    simp only [tl, List.all_cons, tl_all k n, Bool.and_true, isDig_iff, db_toNat _ h]
    omega

/-- What isNumber answers. -/
def isNum (l : List UInt8) : Bool :=
  decide (1 ≤ l.length) && decide (l.length ≤ 15) && !(decide (l.head? = some 48) && decide (1 < l.length)) && l.all isDig

theorem pow_mono {a b : Nat} (h : a ≤ b) : 10 ^ a ≤ 10 ^ b := Nat.pow_le_pow_right (by omega) h
theorem pow_pos' (k : Nat) : 0 < 10 ^ k := Nat.pow_pos (by omega)

/-- A number's decimal form has at most 15 digits exactly when the number is below ten to fifteen; and it never opens with a nought unless it is one digit. -/
theorem isNum_tl (k n : Nat) (h1 : 1 ≤ k) (hlt : n < 10 ^ k) (hge : k = 1 ∨ 10 ^ (k - 1) ≤ n) : isNum (tl k n) = decide (n < 1000000000000000) := by
  obtain ⟨j, rfl⟩ : ∃ j, k = j + 1 := ⟨k - 1, by omega⟩
  have e15 : (10 : Nat) ^ 15 = 1000000000000000 := by decide
  have hall := tl_all (j + 1) n
  have hlen := tl_length (j + 1) n
  have hhead : (decide ((tl (j + 1) n).head? = some 48) && decide (1 < (tl (j + 1) n).length)) = false := by
    rw [hlen]
    by_cases hj : j = 0
    · subst hj; simp
    · rcases hge with h | h
      · omega
      · have hj' : 10 ^ j ≤ n := by simpa using h
        have hd : n / 10 ^ j < 10 := by
          rw [Nat.div_lt_iff_lt_mul (pow_pos' j)]
          rw [Nat.pow_succ, Nat.mul_comm] at hlt
          exact hlt
        have hd1 : 1 ≤ n / 10 ^ j := by
          rw [Nat.le_div_iff_mul_le (pow_pos' j)]
          omega
        have hne : db (n / 10 ^ j % 10) ≠ 48 := by
          intro hc
          have := congrArg UInt8.toNat hc
          rw [db_toNat _ (Nat.mod_lt _ (by omega)), Nat.mod_eq_of_lt hd] at this
          have h48 : (48 : UInt8).toNat = 48 := rfl
          omega
        simp [tl, hne]
  unfold isNum
  rw [hhead, hall, hlen]
  by_cases hn : n < 1000000000000000
  · have : j + 1 ≤ 15 := by
      rcases Nat.lt_or_ge 15 (j + 1) with h | h
      · exfalso
        rcases hge with h' | h'
        · omega
        · have := pow_mono (show 15 ≤ j + 1 - 1 by omega)
          omega
      · exact h
    simp [hn]; omega
  · have : ¬ j + 1 ≤ 15 := by
      intro h
      have := pow_mono h
      omega
    simp [hn]; omega

/-- The value of a string of digits. -/
def val (l : List UInt8) : Nat := l.foldl (fun n c => n * 10 + (c.toNat - 48)) 0
theorem val_snoc (l : List UInt8) (c : UInt8) : val (l ++ [c]) = val l * 10 + (c.toNat - 48) := by simp [val]

theorem tl_snoc : ∀ (k n d : Nat), d < 10 → tl (k + 1) (n * 10 + d) = tl k n ++ [db d]
  | 0, n, d, h => by
    have : (n * 10 + d) % 10 = d := by omega
    simp [tl, this]
  | k + 1, n, d, h => by
    have e : (n * 10 + d) / 10 ^ (k + 1) = n / 10 ^ k := by
      rw [show 10 ^ (k + 1) = 10 * 10 ^ k by rw [Nat.pow_succ, Nat.mul_comm], ← Nat.div_div_eq_div_mul, show (n * 10 + d) / 10 = n by omega]
    rw [tl, tl_snoc k n d h, e]
    rfl

theorem db_of_dig (c : UInt8) (h : isDig c = true) : db (c.toNat - 48) = c := by
  rw [isDig_iff] at h
  apply UInt8.toNat_inj.1
  rw [db_toNat _ (by omega)]
  omega

theorem all_snoc (l : List UInt8) (c : UInt8) : (l ++ [c]).all isDig = (l.all isDig && isDig c) := by simp

/-- Reading digits and writing them again. -/
theorem tl_val (r : List UInt8) : r.all isDig = true → tl r.length (val r) = r ∧ val r < 10 ^ r.length := by
  rw [← List.reverse_reverse r]
  generalize r.reverse = t
  induction t with
  | nil => intro _; simp [tl, val]
  | cons c t ih =>
    intro h
    rw [List.reverse_cons, all_snoc, Bool.and_eq_true] at h
    obtain ⟨i1, i2⟩ := ih h.1
    have hd := (isDig_iff c).1 h.2
    rw [List.reverse_cons, val_snoc, List.length_append, List.length_singleton]
    constructor
    · rw [tl_snoc _ _ _ (by omega), i1, db_of_dig c h.2]
    · rw [Nat.pow_succ]; omega

theorem val_cons (c : UInt8) (l : List UInt8) : val (c :: l) = (c.toNat - 48) * 10 ^ l.length + val l := by
  have g : ∀ (l : List UInt8) (a : Nat), l.foldl (fun n c => n * 10 + (c.toNat - 48)) a = a * 10 ^ l.length + val l := by
    intro l
    rw [← List.reverse_reverse l]
    generalize l.reverse = t
    induction t with
    | nil => intro a; simp [val]
    | cons d t ih =>
      intro a
      rw [List.reverse_cons, List.foldl_append, ih, val_snoc, List.length_append, List.length_singleton, Nat.pow_succ]
      simp only [List.foldl_cons, List.foldl_nil, Nat.add_mul, ← Nat.mul_assoc]
      omega
  show List.foldl _ _ l = _
  rw [g]
  simp

/-- The digits of a number in canonical form are fixed by the number. -/
theorem len_unique (k n : Nat) (l : List UInt8) (h1 : 1 ≤ k) (hlt : n < 10 ^ k) (hge : k = 1 ∨ 10 ^ (k - 1) ≤ n)
    (hl1 : 1 ≤ l.length) (hall : l.all isDig = true) (hz : ¬ (l.head? = some 48 ∧ 1 < l.length)) (hv : val l = n) : k = l.length := by
  have hvl := (tl_val l hall).2
  have hge' : l.length = 1 ∨ 10 ^ (l.length - 1) ≤ n := by
    match l, hl1 with
    | c :: r, _ =>
      by_cases hr : r.length = 0
      · left; simp [hr]
      · right
        have hc : c ≠ 48 := by
          intro hc
          exact hz ⟨by simp [hc], by simp; omega⟩
        have hd : isDig c = true := by
          simp only [List.all_cons, Bool.and_eq_true] at hall
          exact hall.1
        have hd' := (isDig_iff c).1 hd
        have hc' : c.toNat ≠ 48 := fun e => hc (UInt8.toNat_inj.1 e)
        rw [← hv, val_cons]
        have : 1 * 10 ^ r.length ≤ (c.toNat - 48) * 10 ^ r.length := Nat.mul_le_mul_right _ (by omega)
        simp only [List.length_cons, Nat.add_sub_cancel]
        omega
  rcases Nat.lt_trichotomy k l.length with h | h | h
  · exfalso
    have := pow_mono (show k ≤ l.length - 1 by omega)
    rcases hge' with h' | h' <;> omega
  · exact h
  · exfalso
    have := pow_mono (show l.length ≤ k - 1 by omega)
    rcases hge with h' | h' <;> omega

/-- Law: with all digits, at most 19 of them, and a value below ten to fifteen: isNumber answers exactly whether the canonical form is the text. -/
theorem isNum_canon (l : List UInt8) (k : Nat) (hl1 : 1 ≤ l.length) (hall : l.all isDig = true) (h1 : 1 ≤ k) (hlt : val l < 10 ^ k) (hge : k = 1 ∨ 10 ^ (k - 1) ≤ val l)
    (hn : val l < 1000000000000000) : isNum l = decide (tl k (val l) = l) := by
  by_cases hz : l.head? = some 48 ∧ 1 < l.length
  · have hf : isNum l = false := by simp [isNum, hz.1, hz.2]
    rw [hf]
    symm
    apply decide_eq_false
    intro he
    have := isNum_tl k (val l) h1 hlt hge
    rw [he, hf, decide_eq_true hn] at this
    cases this
  · have hk := len_unique k (val l) l h1 hlt hge hl1 hall hz rfl
    have ht := (tl_val l hall).1
    have := isNum_tl k (val l) h1 hlt hge
    rw [hk] at this ⊢
    rw [ht] at this ⊢
    rw [this, decide_eq_true hn]
    simp

/-- Law: all digits and a value of at least ten to fifteen: no number. -/
theorem isNum_big (l : List UInt8) (hall : l.all isDig = true) (hn : ¬ val l < 1000000000000000) : isNum l = false := by
  have hvl := (tl_val l hall).2
  have e15 : (10 : Nat) ^ 15 = 1000000000000000 := by decide
  have : ¬ l.length ≤ 15 := fun h => by have := pow_mono h; omega
  simp [isNum, this]
theorem isNum_notdig (l : List UInt8) (h : l.all isDig = false) : isNum l = false := by simp [isNum, h]
theorem isNum_long (l : List UInt8) (h : 15 < l.length) : isNum l = false := by
  have : ¬ l.length ≤ 15 := by omega
  simp [isNum, this]
theorem isNum_nil : isNum [] = false := rfl

/-- Ten to nineteen: nineteen digits do not overflow. -/
theorem val_lt (l : List UInt8) (h : l.all isDig = true) (hl : l.length ≤ 19) : val l < 10000000000000000000 := by
  have := (tl_val l h).2
  have e : (10 : Nat) ^ 19 = 10000000000000000000 := by decide
  have := pow_mono hl
  omega
end Go.Proofs.Qxb6603968a.Num
