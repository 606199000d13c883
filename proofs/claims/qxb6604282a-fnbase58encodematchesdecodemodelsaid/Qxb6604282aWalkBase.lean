/-
  THE WALKS OF THE SMALL FUNCTIONS OF THE base58 LAWS: zzB58Clone.
-/
import Derived.Test.Qxb6604282aRows
import Derived.Test.Qxb6604282aNum
import Derived.WalkKit
import Derived.ProofKit
import Derived.OpenShut
import Derived.ShutString
import Derived.ChangeOld
import Derived.Below
import Derived.WalkLawsBesides
import Derived.WalkSpells
namespace Go.Proofs.Qxb6604282a.WalkBase
open Go.ChangeShapes Go.WideShapes Go.ChangeAt Go.RowKit
open Go.Proofs.Qxb6604282a.Num
set_option linter.unusedVariables false

theorem info5 : (Try.prog.info? 5).map (fun i => (i.zero, i.size, i.bytes)) = some (some (.int .u8 0), 1, 1) := by kernel_rfl

/-- The cells of a row of bytes. -/
def cs (D : List Nat) : List Value := D.map (fun (d : Nat) => Value.int .u8 (d : Int))
theorem cs_length (D : List Nat) : (cs D).length = D.length := by simp [cs]
theorem cs_get (D : List Nat) (j : Nat) (h : j < D.length) : (cs D)[j]? = some (.int .u8 (D[j] : Int)) := by simp [cs, h]
theorem cs_set (D : List Nat) (j u : Nat) : (cs D).set j (.int .u8 (u : Int)) = cs (D.set j u) := by simp [cs, List.map_set]
theorem cs_append (A C : List Nat) : cs (A ++ C) = cs A ++ cs C := by simp [cs]

/-- The call's own row of bytes D, at block g, of the capacity cap. -/
def Own (B : Nat) (w : World) (g : Nat) (D : List Nat) (cap : Nat) : Prop := w.ownsRow B 5 1 (.slice (some ⟨g, 0, none⟩) D.length cap) D.length (cs D)

theorem Own.cell {B : Nat} {w : World} {g : Nat} {D : List Nat} {cap : Nat} (h : Own B w g D cap) (j : Nat) (hj : j < D.length) : w.cell? ⟨g, j, none⟩ = some (.int .u8 (D[j] : Int)) := by
  rw [World.ownsRow.cellAt h j (by omega), cs_get D j hj]
theorem Own.free {B : Nat} {w : World} {g : Nat} {D : List Nat} {cap : Nat} (h : Own B w g D cap) (j : Nat) : w.frozen? ⟨g, j, none⟩ = false := World.ownsRow.frozenAt h j
theorem Own.store {B : Nat} {w : World} {g : Nat} {D : List Nat} {cap : Nat} (h : Own B w g D cap) (j u : Nat) : Own B (w.setCell ⟨g, j, none⟩ (.int .u8 (u : Int))) g (D.set j u) cap := by
  have := (World.ownsRow.stored h j (.int .u8 (u : Int))).1
  rw [cs_set] at this
  unfold Own
  rw [List.length_set]
  exact this
theorem Own.lt {B : Nat} {w : World} {g : Nat} {D : List Nat} {cap : Nat} (h : Own B w g D cap) : B ≤ g ∧ g < w.heap.size := World.ownsRow.lt h g rfl
theorem Own.other {B : Nat} {w : World} {g : Nat} {D : List Nat} {cap : Nat} (h : Own B w g D cap) (g' j : Nat) (hne : g ≠ g') (u : Value) : Own B (w.setCell ⟨g', j, none⟩ u) g D cap :=
  ownsRow_setCell_other h (by simpa [Value.ownBlock] using hne) u
theorem Own.alloc {B : Nat} {w : World} {g : Nat} {D : List Nat} {cap : Nat} (h : Own B w g D cap) (o : Obj) : Own B (w.alloc o) g D cap := World.ownsRow.alloc h o
theorem Own.grown {B : Nat} {w w' : World} {g : Nat} {D : List Nat} {cap : Nat} {row : Option Nat} (h : Own B w g D cap) (hg : w.grownBy w' row) (hne : some g ≠ row) : Own B w' g D cap :=
  World.ownsRow.kept h hg (.inr (by simpa [Value.ownBlock] using hne))
theorem Own.below {B A : Nat} {w w' : World} {g : Nat} {D : List Nat} {cap : Nat} (h : Own B w g D cap) (hb : Below A w w') (hg : g < A) : Own B w' g D cap := by
  refine ⟨h.1, ?_⟩
  rcases h.2 with h2 | ⟨g', cap', cur, hv, hgg, hh, r⟩
  · exact .inl h2
  · refine .inr ⟨g', cap', cur, hv, hgg, ?_, r⟩
    simp only [Value.slice.injEq, Option.some.injEq, Addr.mk.injEq, and_true, true_and] at hv
    obtain ⟨rfl, _⟩ := hv
    rw [hb.block g hg]
    exact hh
theorem madeZeros (n : Nat) : (madeCells #[Value.int .u8 0] n).toList = cs (List.replicate n 0) := by
  rw [toList_madeCells_one]
  simp [cs]
/-- Behind 'make([]byte, n)'. -/
theorem own_made {B : Nat} {w : World} {g n : Nat} (h : w.ownsRow B 5 1 (.slice (some ⟨g, 0, none⟩) n n) n (madeCells #[Value.int .u8 0] n).toList) : Own B w g (List.replicate n 0) n := by
  rw [madeZeros] at h
  unfold Own
  rw [List.length_replicate]
  exact h

theorem ret_bool {a b : Bool} (h : a = b) : Ending.returned (.bool a) = .returned (.bool b) := by rw [h]
theorem ret_str {a b : ByteArray} (h : a = b) : Ending.returned (.string a) = .returned (.string b) := by rw [h]

/-! ### zzB58Clone -/
theorem clone_nil (w : World) : Calls Try.prog 7 #[.slice none 0 0] w fun e w' => e = .returned (.slice none 0 0) ∧ w' = w := by
  have hnil := fun (a : Option Addr) (n c n' c' : Nat) (w : World) => Lib.run_eql_slice_nil (P := Try.prog) w 22 5 a n c n' c' Try.underlying22
  go_enter Try.func7, Try.ntmps7
  go_wp2
  go_ret
  exact ⟨rfl, rfl⟩

theorem fill_set (X : List Nat) (k : Nat) (h : k < X.length) : (X.take k ++ List.replicate (X.length - k) 0).set k X[k] = X.take (k + 1) ++ List.replicate (X.length - (k + 1)) 0 := by
  have e : X.length - k = (X.length - (k + 1)) + 1 := by omega
  have hl : (X.take k).length = k := by simp; omega
  rw [e, List.replicate_succ, List.set_append_right _ _ (by omega), hl, Nat.sub_self, List.set_cons_zero, List.take_succ_eq_append_getElem h, List.append_assoc]
  rfl
theorem fill_len (X : List Nat) (k : Nat) (h : k ≤ X.length) : (X.take k ++ List.replicate (X.length - k) 0).length = X.length := by simp; omega

set_option maxHeartbeats 400000 in
theorem clone_row (x : Addr) (n cap : Nat) (X : List Nat) (w : World) (hX : X.length = n) (hn : n ≤ 4096)
    (hc : ∀ j (h : j < X.length), x.spot = none ∧ w.cell? ⟨x.block, x.off + j, none⟩ = some (.int .u8 (X[j] : Int))) :
    Calls Try.prog 7 #[.slice (some x) n cap] w fun e w' => e = .returned (.slice (some ⟨w.heap.size, 0, none⟩) n n) ∧ Own w.heap.size w' w.heap.size X n ∧ Below w.heap.size w w' := by
  have hnil := fun (a : Option Addr) (n c n' c' : Nat) (w : World) => Lib.run_eql_slice_nil (P := Try.prog) w 22 5 a n c n' c' Try.underlying22
  obtain ⟨i0, hi, hz0, hz1, hz2⟩ := info_parts info5
  have HC : Hid (∀ j (h : j < X.length), x.spot = none ∧ w.cell? ⟨x.block, x.off + j, none⟩ = some (.int .u8 (X[j] : Int))) := hc
  have HX : Hid (X.length = n) := hX
  clear hc hX
  go_enter Try.func7, Try.ntmps7
  go_wp2_with (at_make; refine wpList_make_full _ rfl _ _ 22 rfl w.heap.size 5 i0 (.int .u8 0) 1 Try.underlying22 hi hz0 hz1 _ _ _ _ n rfl rfl rfl rfl ?b2 ?b3 (Nat.le_refl _) ?_)
  case b2 => rw [hz2]; omega
  case b3 => unfold maxLen; omega
  intro w0 hown0 hgrow0
  have HO : Hid (Own w.heap.size w0 w.heap.size (List.replicate n 0) n) := own_made hown0
  have hB : Below w.heap.size w w0 := (Below.refl _ _).grown hgrow0 (Nat.le_refl _) (fun k h => by cases h)
  clear hown0 hgrow0
  go_wp2
  go_loopw [4] (fun i wr => ∃ k : Nat, k ≤ n ∧ i = .int .i64 (k : Int) ∧ Hid (Own w.heap.size wr w.heap.size (X.take k ++ List.replicate (X.length - k) 0) n) ∧ Below w.heap.size w wr) (fun i _ => n - (intOf i).toNat)
  case atStart => exact ⟨0, by omega, rfl, by show Own _ _ _ _ _; have h := HO.out; have e := HX.out; simpa [e] using h, hB⟩
  case round =>
    obtain ⟨k, hk, rfl, HW, hbel⟩ := hrel
    by_cases hlt : k < n
    · have hkX : k < X.length := by rw [HX.out]; exact hlt
      obtain ⟨hsp, hcell⟩ := HC.out k hkX
      obtain ⟨b, off, spot⟩ := x
      simp only at hsp
      subst hsp
      have hbb : b < w.heap.size := World.block_lt_of_cell? w _ hcell
      have hcr : wr.cell? ⟨b, off + k, none⟩ = some (.int .u8 (X[k] : Int)) := (hbel.cell (by exact hbb)).trans hcell
      have hlen := fill_len X k (by omega)
      obtain ⟨old, hold⟩ : ∃ old, wr.cell? ⟨w.heap.size, k, none⟩ = some old := ⟨_, HW.out.cell k (by rw [hlen]; exact hkX)⟩
      have hfree : wr.frozen? ⟨w.heap.size, k, none⟩ = false := HW.out.free k
      have HS : Hid (Own w.heap.size (wr.setCell ⟨w.heap.size, k, none⟩ (.int .u8 (X[k] : Int))) w.heap.size (X.take (k + 1) ++ List.replicate (X.length - (k + 1)) 0) n) := by
        show Own _ _ _ _ _
        have := HW.out.store k X[k]
        rwa [fill_set X k hkX] at this
      clear hlen hcell
      go_wp2
      go_roundw
      case rel => exact ⟨k + 1, by omega, by go_num, HS, hbel.setCell (by exact Nat.le_refl _) _⟩
      case measure => simp [intOf]; omega
    · go_wp2
      go_ret
      refine ⟨rfl, ?_, hbel⟩
      have h := HW.out
      rwa [List.take_of_length_le (by rw [HX.out]; omega), show X.length - k = 0 by rw [HX.out]; omega, List.replicate_zero, List.append_nil] at h
end Go.Proofs.Qxb6604282a.WalkBase
