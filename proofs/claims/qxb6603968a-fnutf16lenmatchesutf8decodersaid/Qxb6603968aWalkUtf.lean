/-
  THE WALKS OF utf16Len, ZZutf16Len, AND OF THE LAW ON BOUNDS.
-/
import Derived.Test.Qxb6603968aWalkNum
import Derived.Test.Qxb6603968aUtf
namespace Go.Proofs.Qxb6603968a.WalkUtf
open Go.ChangeShapes Go.WideShapes Go.ChangeAt Go.RowKit
open Go.Proofs.Qxb6603968a.WalkNum Go.Proofs.Qxb6603968a.Utf
set_option linter.unusedVariables false

theorem frozen_iter (w : World) (s : ByteArray) (p : Nat) (a : Addr) : (w.alloc (.stringIter s p)).frozen? a = w.frozen? a := by
  by_cases h : a.block = w.heap.size
  · have e1 : (w.alloc (.stringIter s p)).heap[a.block]? = some (.stringIter s p) := by rw [h]; exact (MapKept.heap_alloc w _).1
    have e2 : w.heap[a.block]? = none := by rw [h]; simp
    simp [World.frozen?, e1, e2]
  · exact World.frozen?_alloc_old _ _ _ h
theorem grown_iter (w : World) (s : ByteArray) (p : Nat) : Grown w (w.iter s p) :=
  ⟨World.keptBut_alloc _ _ _, fun a => frozen_iter _ _ _ a, by show w.heap.size ≤ (w.heap.push _).size; simp⟩
theorem grown_trans {a b c : World} (h1 : Grown a b) (h2 : Grown b c) : Grown a c := by
  refine ⟨?_, fun x => (h2.2.1 x).trans (h1.2.1 x), Nat.le_trans h1.2.2 h2.2.2⟩
  exact World.keptBut_trans h1.1 h2.1

set_option maxHeartbeats 400000 in
theorem utf16Len_any (s : ByteArray) (hs : s.size ≤ 1048576) (w : World) :
    Calls Try.prog 20 #[.string s] w fun e w' => e = .returned (.int .i64 (units s s.size 0 : Nat)) ∧ Grown w w' := by
  obtain ⟨R, hR⟩ : ∃ R : Nat, units s s.size 0 = R := ⟨_, rfl⟩
  rw [hR]
  have HR : Hid (units s s.size 0 = R) := hR
  clear hR
  go_enter Try.func20, Try.ntmps20
  go_wp2
  go_loopw [3] (fun n w' => ∃ (pos f acc : Nat), w' = w.iter s pos ∧ n = .int .i64 (acc : Int) ∧ Hid (acc + units s f pos = R) ∧ pos ≤ s.size ∧ s.size ≤ pos + f ∧ acc ≤ pos) (fun _ w' => s.size - w'.iterPos w.heap.size)
  case atStart => exact ⟨0, s.size, 0, rfl, rfl, by show 0 + units s s.size 0 = R; rw [HR.out, Nat.zero_add], by omega, by omega, by omega⟩
  case round =>
    obtain ⟨pos, f, acc, rfl, rfl, HC, hp1, hp2, hacc⟩ := hrel
    by_cases hp : pos < s.size
    · have hnx : ∀ ty, (Instr.next (.pointer (some ⟨w.heap.size, 0, none⟩)) true ty).run Try.prog (w.iter s pos) = _ := fun ty => run_next_any w s pos ty hp
      obtain ⟨f', rfl⟩ : ∃ f', f = f' + 1 := ⟨f - 1, by omega⟩
      have hstep := units_step s f' pos hp
      have HS : Hid (units s (f' + 1) pos = un s pos + units s f' (pos + (Utf8.decode s pos).2)) := hstep
      clear hstep
      obtain ⟨d1, d2, d3, d4⟩ := decode_step s pos hp
      have hub := un_bounds s pos hp
      by_cases hr : (65535 : Int) < ((Utf8.decode s pos).1 : Int)
      · have HU : Hid (un s pos = 2) := by show un s pos = 2; unfold un; rw [if_pos (by omega)]
        have hw4 : 4 ≤ (Utf8.decode s pos).2 := by have := d4.1 (by omega); omega
        clear d4 hub
        go_wp2
        go_roundw
        case rel => exact ⟨pos + (Utf8.decode s pos).2, f', acc + 2, rfl, by go_num, by show acc + 2 + units s f' (pos + (Utf8.decode s pos).2) = R; have a := HC.out; rw [HS.out, HU.out] at a; omega, by omega, by omega, by omega⟩
        case measure => simp; omega
      · have HU : Hid (un s pos = 1) := by show un s pos = 1; unfold un; rw [if_neg (by omega)]
        clear d4 hub
        go_wp2
        go_roundw
        case rel => exact ⟨pos + (Utf8.decode s pos).2, f', acc + 1, rfl, by go_num, by show acc + 1 + units s f' (pos + (Utf8.decode s pos).2) = R; have a := HC.out; rw [HS.out, HU.out] at a; omega, by omega, by omega, by omega⟩
        case measure => simp; omega
    · have hnx : ∀ ty, (Instr.next (.pointer (some ⟨w.heap.size, 0, none⟩)) true ty).run Try.prog (w.iter s pos) = _ := fun ty => run_next_end w s pos ty hp
      go_wp2
      go_ret
      refine ⟨ret_int (by have a := HC.out; rw [units_end s f pos hp] at a; omega), ?_⟩
      exact grown_iter _ _ _

theorem ZZutf16Len_any (s : ByteArray) (hs : s.size ≤ 1048576) (w : World) :
    Calls Try.prog 15 #[.string s] w fun e w' => e = .returned (.int .i64 (units s s.size 0 : Nat)) ∧ Grown w w' := by
  obtain ⟨R, hR⟩ : ∃ R : Nat, units s s.size 0 = R := ⟨_, rfl⟩
  have h := utf16Len_any s hs w
  rw [hR] at h ⊢
  have HC : Hid (Calls Try.prog 20 #[.string s] w fun e w' => e = .returned (.int .i64 (R : Int)) ∧ Grown w w') := h
  clear hR h
  go_enter Try.func15, Try.ntmps15
  go_wp2_with fail
  refine HC.out.mono ?_
  rintro e w1 ⟨rfl, hg⟩
  go_wp2
  go_ret
  exact ⟨rfl, hg⟩

theorem bytes17 (s : ByteArray) (w : World) (h : s.size ≤ 1048576) : Calls Try.prog 17 #[.string s] w fun e w' => e = .returned (.bool true) ∧ w' = w := by
  go_enter Try.func17, Try.ntmps17
  go_wp2
  go_ret
  exact ⟨rfl, rfl⟩

set_option maxHeartbeats 400000 in
theorem bounded (s : ByteArray) (hs : s.size ≤ maxLen) (w : World) :
    Calls Try.prog 7 #[.string s] w fun e w' => e = .returned (.bool true) ∧ Grown w w' := by
  unfold maxLen at hs
  by_cases hbig : 1048576 < s.size
  · go_enter Try.func7, Try.ntmps7
    go_wp2
    go_ret
    exact ⟨rfl, Grown.refl _⟩
  have hb := units_bounds s s.size 0 (by omega) (by omega)
  go_enter Try.func7, Try.ntmps7
  go_wp2_with fail
  refine (bytes17 s _ (by omega)).mono ?_
  rintro e w1 ⟨rfl, rfl⟩
  go_wp2_with fail
  refine (ZZutf16Len_any s (by omega) _).mono ?_
  generalize units s s.size 0 = R at hb
  rintro e w2 ⟨rfl, hg⟩
  have h1 : (R : Int) ≤ (s.size : Int) := by omega
  have h2 : (s.size : Int) ≤ 3 * (R : Int) := by omega
  have h3 : (R : Int) ≤ 1048576 := by omega
  go_wp2
  go_ret
  exact ⟨rfl, hg⟩
end Go.Proofs.Qxb6603968a.WalkUtf
