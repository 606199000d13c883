/-
  PLAIN FACTS ON THE HAND DECODER's TABLE: for each kind of first byte, when a well formed sequence starts.
-/
import Derived.Test.Qxb6603968aUtf
namespace Go.Proofs.Qxb6603968a.Utf
open Go
set_option linter.unusedVariables false

/-- A sequence of 'need' bytes whose second lies between lo and hi. -/
def Ok (s : ByteArray) (i need lo hi : Nat) : Prop :=
  i + need ≤ s.size ∧ lo ≤ bt s (i + 1) ∧ bt s (i + 1) ≤ hi ∧ ∀ k, 2 ≤ k → k < need → 128 ≤ bt s (i + k) ∧ bt s (i + k) ≤ 191
def Cls (s : ByteArray) (i need lo hi : Nat) : Prop := (Ok s i need lo hi → sq s i = need) ∧ (¬ Ok s i need lo hi → sq s i = 0)

theorem cls2 (s : ByteArray) (i : Nat) (h : i < s.size) (b : 194 ≤ bt s i ∧ bt s i ≤ 223) : Cls s i 2 128 191 := by
  constructor
  · intro ⟨h1, h2, h3, _⟩
    rw [sq_eq s i (by omega)]
    simp only [cont_iff]
    repeat' split
    all_goals omega
  · intro hn
    rw [sq_eq s i (by omega)]
    simp only [cont_iff]
    repeat' split
    · rename_i hc
      exact absurd ⟨by omega, by omega, by omega, fun k h2 h3 => by omega⟩ hn
    all_goals omega

theorem cls3 (s : ByteArray) (i lo hi : Nat) (h : i < s.size) (b : 224 ≤ bt s i ∧ bt s i ≤ 239) (hlo : lo = if bt s i = 224 then 160 else 128) (hhi : hi = if bt s i = 237 then 159 else 191) : Cls s i 3 lo hi := by
  constructor
  · intro ⟨h1, h2, h3, h4⟩
    have h5 := h4 2 (by omega) (by omega)
    rw [sq_eq s i (by omega)]
    simp only [cont_iff]
    repeat' split
    all_goals (repeat' split at hlo) <;> (repeat' split at hhi) <;> omega
  · intro hn
    rw [sq_eq s i (by omega)]
    simp only [cont_iff]
    repeat' split
    · omega
    · rename_i hc
      refine absurd ⟨by omega, ?_, ?_, fun k h2 h3 => ?_⟩ hn
      · split at hlo <;> omega
      · split at hhi <;> omega
      · obtain rfl : k = 2 := by omega
        omega
    all_goals omega

theorem cls4 (s : ByteArray) (i lo hi : Nat) (h : i < s.size) (b : 240 ≤ bt s i ∧ bt s i ≤ 244) (hlo : lo = if bt s i = 240 then 144 else 128) (hhi : hi = if bt s i = 244 then 143 else 191) : Cls s i 4 lo hi := by
  constructor
  · intro ⟨h1, h2, h3, h4⟩
    have h5 := h4 2 (by omega) (by omega)
    have h6 := h4 3 (by omega) (by omega)
    rw [sq_eq s i (by omega)]
    simp only [cont_iff]
    repeat' split
    all_goals (repeat' split at hlo) <;> (repeat' split at hhi) <;> omega
  · intro hn
    rw [sq_eq s i (by omega)]
    simp only [cont_iff]
    repeat' split
    · omega
    · omega
    · rename_i hc
      refine absurd ⟨by omega, ?_, ?_, fun k h2 h3 => ?_⟩ hn
      · split at hlo <;> omega
      · split at hhi <;> omega
      · rcases (show k = 2 ∨ k = 3 by omega) with rfl | rfl <;> omega
    all_goals omega

theorem sq_none (s : ByteArray) (i : Nat) (h : i < s.size) (b : (128 ≤ bt s i ∧ bt s i ≤ 193) ∨ 245 ≤ bt s i) : sq s i = 0 := by
  rw [sq_eq s i (by omega)]
  simp only [cont_iff]
  repeat' split
  all_goals omega
end Go.Proofs.Qxb6603968a.Utf
