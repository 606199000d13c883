/-
  PLAIN FACTS ON Utf8.decode: no walk in sight.
-/
import Derived.Laws.RangeAny
namespace Go.Proofs.Qxb6603968a.Utf
open Go

def bt (s : ByteArray) (n : Nat) : Nat := (s.get! n).toNat
theorem bt_lt (s : ByteArray) (n : Nat) : bt s n < 256 := (s.get! n).toNat_lt
theorem bt_get (s : ByteArray) (n : Nat) (h : n < s.size) : (s[n]'h).toNat = bt s n := by
  unfold bt
  rw [← get_at s n h]
  rfl

/-- A byte that goes on with a sequence, at n. -/
def cont (s : ByteArray) (n : Nat) : Bool := decide (n < s.size) && (bt s n / 64 == 2)
theorem cont_iff (s : ByteArray) (n : Nat) : cont s n = true ↔ n < s.size ∧ 128 ≤ bt s n ∧ bt s n ≤ 191 := by
  unfold cont
  have := bt_lt s n
  simp only [Bool.and_eq_true, decide_eq_true_eq, beq_iff_eq]
  omega

theorem decode_eq (s : ByteArray) (i : Nat) : Utf8.decode s i =
    if bt s i < 128 then (bt s i, 1)
    else if bt s i / 32 = 6 ∧ cont s (i + 1) = true then
      if 128 ≤ bt s i % 32 * 64 + bt s (i + 1) % 64 then (bt s i % 32 * 64 + bt s (i + 1) % 64, 2) else (65533, 1)
    else if bt s i / 16 = 14 ∧ cont s (i + 1) = true ∧ cont s (i + 2) = true then
      if 2048 ≤ bt s i % 16 * 4096 + bt s (i + 1) % 64 * 64 + bt s (i + 2) % 64 ∧ Utf8.valid ((bt s i % 16 * 4096 + bt s (i + 1) % 64 * 64 + bt s (i + 2) % 64 : Nat) : Int) = true
      then (bt s i % 16 * 4096 + bt s (i + 1) % 64 * 64 + bt s (i + 2) % 64, 3) else (65533, 1)
    else if bt s i / 8 = 30 ∧ cont s (i + 1) = true ∧ cont s (i + 2) = true ∧ cont s (i + 3) = true then
      if 65536 ≤ bt s i % 8 * 262144 + bt s (i + 1) % 64 * 4096 + bt s (i + 2) % 64 * 64 + bt s (i + 3) % 64 ∧ Utf8.valid ((bt s i % 8 * 262144 + bt s (i + 1) % 64 * 4096 + bt s (i + 2) % 64 * 64 + bt s (i + 3) % 64 : Nat) : Int) = true
      then (bt s i % 8 * 262144 + bt s (i + 1) % 64 * 4096 + bt s (i + 2) % 64 * 64 + bt s (i + 3) % 64, 4) else (65533, 1)
    else (65533, 1) := by
  unfold Utf8.decode cont bt Utf8.runeError
  simp only [Nat.add_zero, Bool.and_eq_true, decide_eq_true_eq, beq_iff_eq, ge_iff_le, and_assoc]

theorem valid_iff (n : Nat) : Utf8.valid (n : Int) = true ↔ n < 55296 ∨ (57344 ≤ n ∧ n ≤ 1114111) := by
  unfold Utf8.valid
  simp only [Bool.or_eq_true, Bool.and_eq_true, decide_eq_true_eq]
  omega

/-- What a step of the decoder can be. -/
theorem decode_step (s : ByteArray) (i : Nat) (h : i < s.size) :
    1 ≤ (Utf8.decode s i).2 ∧ i + (Utf8.decode s i).2 ≤ s.size ∧ (Utf8.decode s i).2 ≤ 4 ∧ (65535 < (Utf8.decode s i).1 ↔ (Utf8.decode s i).2 = 4) := by
  have b0 := bt_lt s i; have b1 := bt_lt s (i + 1); have b2 := bt_lt s (i + 2); have b3 := bt_lt s (i + 3)
  rw [decode_eq]
  simp only [cont_iff, valid_iff]
  repeat' split
  all_goals refine ⟨?_, ?_, ?_, ?_⟩
  all_goals first | omega | (simp only; omega)

/-- The width of the well formed sequence at i, or 0. -/
def sq (s : ByteArray) (i : Nat) : Nat := if bt s i < 128 then 1 else if (Utf8.decode s i).2 = 1 then 0 else (Utf8.decode s i).2

theorem sq_ascii (s : ByteArray) (i : Nat) (h : bt s i < 128) : sq s i = 1 := by simp [sq, h]

theorem sq_eq (s : ByteArray) (i : Nat) (h : 128 ≤ bt s i) : sq s i =
    if (194 ≤ bt s i ∧ bt s i ≤ 223) ∧ cont s (i + 1) = true then 2
    else if (224 ≤ bt s i ∧ bt s i ≤ 239) ∧ cont s (i + 1) = true ∧ cont s (i + 2) = true ∧ (bt s i = 224 → 160 ≤ bt s (i + 1)) ∧ (bt s i = 237 → bt s (i + 1) ≤ 159) then 3
    else if (240 ≤ bt s i ∧ bt s i ≤ 244) ∧ cont s (i + 1) = true ∧ cont s (i + 2) = true ∧ cont s (i + 3) = true ∧ (bt s i = 240 → 144 ≤ bt s (i + 1)) ∧ (bt s i = 244 → bt s (i + 1) ≤ 143) then 4
    else 0 := by
  have b0 := bt_lt s i; have b1 := bt_lt s (i + 1); have b2 := bt_lt s (i + 2); have b3 := bt_lt s (i + 3)
  have hn : ¬ bt s i < 128 := by omega
  unfold sq
  rw [if_neg hn]
  generalize hd : Utf8.decode s i = d
  rw [decode_eq] at hd
  simp only [cont_iff, valid_iff] at hd ⊢
  rw [if_neg hn] at hd
  repeat' split at hd
  all_goals subst hd
  all_goals simp only [Nat.reduceEqDiff, if_true, if_false]
  all_goals repeat' split
  all_goals omega

/-- The UTF-16 units of one step. -/
def un (s : ByteArray) (i : Nat) : Nat := if 65535 < (Utf8.decode s i).1 then 2 else 1
/-- The UTF-16 units from i on (f: at least as many steps as bytes are left). -/
def units (s : ByteArray) : Nat → Nat → Nat
  | 0, _ => 0
  | f + 1, i => if i < s.size then un s i + units s f (i + (Utf8.decode s i).2) else 0

theorem units_end (s : ByteArray) (f i : Nat) (h : ¬ i < s.size) : units s f i = 0 := by
  cases f with
  | zero => rfl
  | succ f => simp [units, h]
theorem units_step (s : ByteArray) (f i : Nat) (h : i < s.size) : units s (f + 1) i = un s i + units s f (i + (Utf8.decode s i).2) := by simp [units, h]

theorem un_bounds (s : ByteArray) (i : Nat) (h : i < s.size) : 1 ≤ un s i ∧ un s i ≤ 2 ∧ un s i ≤ (Utf8.decode s i).2 ∧ (Utf8.decode s i).2 ≤ 3 * un s i := by
  have hd := decode_step s i h
  unfold un
  split <;> omega

theorem units_bounds (s : ByteArray) : ∀ (f i : Nat), i ≤ s.size → s.size ≤ i + f → units s f i ≤ s.size - i ∧ s.size - i ≤ 3 * units s f i
  | 0, i, h1, h2 => by simp [units]; omega
  | f + 1, i, h1, h2 => by
    by_cases h : i < s.size
    · have hd := decode_step s i h
      have hu := un_bounds s i h
      have ih := units_bounds s f (i + (Utf8.decode s i).2) (by omega) (by omega)
      rw [units_step s f i h]
      omega
    · rw [units_end s _ i h]
      omega

/-- The hand decoder's step is the model's. -/
theorem sq_zero (s : ByteArray) (i : Nat) (h : i < s.size) (hz : sq s i = 0) : (Utf8.decode s i).2 = 1 ∧ un s i = 1 := by
  have hd := decode_step s i h
  have h1 : (Utf8.decode s i).2 = 1 := by
    unfold sq at hz
    split at hz
    · omega
    · split at hz <;> omega
  refine ⟨h1, ?_⟩
  unfold un
  rw [if_neg (by omega)]
theorem sq_pos (s : ByteArray) (i : Nat) (h : i < s.size) (hz : sq s i ≠ 0) : (Utf8.decode s i).2 = sq s i ∧ un s i = if sq s i = 4 then 2 else 1 := by
  have hd := decode_step s i h
  have h1 : (Utf8.decode s i).2 = sq s i := by
    unfold sq at hz ⊢
    split at hz
    · rename_i hb
      rw [if_pos hb, decode_eq, if_pos hb]
    · rename_i hb
      rw [if_neg hb]
      split at hz
      · omega
      · rename_i hc
        rw [if_neg hc]
  refine ⟨h1, ?_⟩
  unfold un
  by_cases h4 : sq s i = 4
  · rw [if_pos (by omega), if_pos h4]
  · rw [if_neg (by omega), if_neg h4]
theorem sq_le (s : ByteArray) (i : Nat) (h : i < s.size) : i + sq s i ≤ s.size ∧ sq s i ≤ 4 := by
  by_cases hz : sq s i = 0
  · rw [hz]; omega
  · have := sq_pos s i h hz
    have hd := decode_step s i h
    omega
end Go.Proofs.Qxb6603968a.Utf
