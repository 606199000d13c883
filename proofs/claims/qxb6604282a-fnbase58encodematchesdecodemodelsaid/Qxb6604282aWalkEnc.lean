/-
  THE WALK OF base58Encode.
-/
import Derived.Test.Qxb6604282aWalkBase
import Derived.LoopN
namespace Go.Proofs.Qxb6604282a.WalkEnc
open Go.ChangeShapes Go.WideShapes Go.ChangeAt Go.RowKit
open Go.Proofs.Qxb6604282a.Num Go.Proofs.Qxb6604282a.WalkBase
set_option linter.unusedVariables false

/-- The alphabet. -/
def alphaL : List UInt8 := [49, 50, 51, 52, 53, 54, 55, 56, 57, 65, 66, 67, 68, 69, 70, 71, 72, 74, 75, 76, 77, 78, 80, 81, 82, 83, 84, 85, 86, 87, 88, 89, 90, 97, 98, 99, 100, 101, 102, 103, 104, 105, 106, 107, 109, 110, 111, 112, 113, 114, 115, 116, 117, 118, 119, 120, 121, 122]
def alpha (d : Nat) : UInt8 := alphaL.getD d 0
/-- The text: a '1' for each leading nought, then the digits, the highest first. -/
def enc (z : Nat) (D : List Nat) : List UInt8 := List.replicate z 49 ++ D.reverse.map alpha

theorem idx_alpha (d : Nat) (hd : d < 58) (wx : World) :
    (Instr.index 9 (.string ⟨#[49, 50, 51, 52, 53, 54, 55, 56, 57, 65, 66, 67, 68, 69, 70, 71, 72, 74, 75, 76, 77, 78, 80, 81, 82, 83, 84, 85, 86, 87, 88, 89, 90, 97, 98, 99, 100, 101, 102, 103, 104, 105, 106, 107, 109, 110, 111, 112, 113, 114, 115, 116, 117, 118, 119, 120, 121, 122]⟩) (.int .u8 (d : Int))).run Try.prog wx = .ok (.int .u8 ((alpha d).toNat : Int)) wx := by
  rw [run_index_string wx 9 _ .u8 _ Try.underlying9, dif_pos ⟨by omega, by show (d : Int) < 58; omega⟩]
  simp only [Int.toNat_natCast]
  have e : alpha d = alphaL[d]'hd := by unfold alpha; rw [List.getD_eq_getElem?_getD, List.getElem?_eq_getElem hd]; rfl
  rw [e]
  rfl

theorem Own_le {B : Nat} {w : World} {g : Nat} {D : List Nat} {cap : Nat} (h : Own B w g D cap) : D.length ≤ cap := by
  rcases h.2 with ⟨h', _⟩ | ⟨g', cap', cur, h', _, _, hle, _⟩
  · simp at h'
  · simp only [Value.slice.injEq, true_and] at h'
    obtain ⟨_, rfl⟩ := h'
    exact hle

theorem store58 {B : Nat} {w : World} {g : Nat} {E : List Nat} {cap : Nat} (h : Own B w g E cap) (i c d : Nat) :
    Own B (w.setCell ⟨g, i, none⟩ (.int .u8 (((c : Int) + (d : Int) * 256) % 58))) g (E.set i ((c + 256 * d) % 58)) cap := by
  have e : ((c : Int) + (d : Int) * 256) % 58 = (((c + 256 * d) % 58 : Nat) : Int) := by omega
  rw [e]
  exact h.store i _

theorem one_new (w : World) (u : Value) : ∀ j v, [u][j]? = some v → (w.alloc (.cells #[u] 5)).cell? ((⟨w.heap.size, 0, none⟩ : Addr).add j) = some v := by
  intro j v hj
  match j, hj with
  | 0, hj =>
    simp at hj
    subst hj
    simp [Addr.add]
theorem own_push {B : Nat} {w : World} {g : Nat} {F : List Nat} {cap c : Nat} (h : w.ownsRow B 5 1 (.slice (some ⟨g, 0, none⟩) (F.length + 1) cap) (F.length + 1) (cs F ++ [.int .u8 ((c : Int) % 58)])) : Own B w g (F ++ [c % 58]) cap := by
  have e : (c : Int) % 58 = ((c % 58 : Nat) : Int) := by omega
  unfold Own
  rw [cs_append, List.length_append, List.length_singleton]
  rw [e] at h
  exact h

theorem val_drop_succ (M : Nat) (X : List Nat) (z k : Nat) (h : z + k < X.length) : val M ((X.drop z).take (k + 1)) = val M ((X.drop z).take k) * M + X[z + k] := by
  rw [val_take_succ M (X.drop z) k (by rw [List.length_drop]; omega), List.getElem_drop]
theorem val_drop_lt (M : Nat) (X : List Nat) (z m k : Nat) (hM : 1 ≤ M) (hX : X.length = z + m) (hk : k < m) (h : ∀ x ∈ X, x < M) : val M ((X.drop z).take (k + 1)) < M ^ m := by
  have h1 := val_lt M ((X.drop z).take (k + 1)) (fun x hx => h x (List.mem_of_mem_drop (List.mem_of_mem_take hx)))
  have h2 : ((X.drop z).take (k + 1)).length ≤ m := by simp; omega
  exact Nat.lt_of_lt_of_le h1 (pow_mono hM h2)

/-- The row of the text while it is filled. -/
def al (d : Nat) : Nat := (alpha d).toNat
def row5 (z L k : Nat) : List Nat := List.replicate k 49 ++ List.replicate (z + L - k) 0
def row6 (z : Nat) (D : List Nat) (i : Nat) : List Nat := List.replicate z 49 ++ (List.replicate (D.length - i) 0 ++ (D.take i).reverse.map al)
theorem row5_len (z L k : Nat) (h : k ≤ z + L) : (row5 z L k).length = z + L := by simp [row5]; omega
theorem row6_len (z : Nat) (D : List Nat) (i : Nat) (h : i ≤ D.length) : (row6 z D i).length = z + D.length := by simp [row6]; omega
theorem row5_zero (z L : Nat) : row5 z L 0 = List.replicate (z + L) 0 := by simp [row5]
theorem row5_set (z L k : Nat) (h : k < z + L) : (row5 z L k).set k 49 = row5 z L (k + 1) := by
  unfold row5
  have e : z + L - k = (z + L - (k + 1)) + 1 := by omega
  rw [e, List.replicate_succ, List.set_append_right _ _ (by simp), List.length_replicate, Nat.sub_self, List.set_cons_zero, List.replicate_succ', List.append_assoc]
  rfl
theorem row5_row6 (z : Nat) (D : List Nat) : row5 z D.length z = row6 z D 0 := by
  have e : z + D.length - z = D.length := by omega
  simp [row5, row6, e]
theorem row6_set (z : Nat) (D : List Nat) (i : Nat) (h : i < D.length) : (row6 z D i).set (z + D.length - 1 - i) (al D[i]) = row6 z D (i + 1) := by
  unfold row6
  have e : D.length - i = (D.length - (i + 1)) + 1 := by omega
  rw [List.set_append_right _ _ (by simp; omega), List.length_replicate, e, List.replicate_succ', List.set_append_left _ _ (by simp; omega), List.set_append_right _ _ (by simp; omega), List.length_replicate]
  rw [show z + D.length - 1 - i - z - (D.length - (i + 1)) = 0 by omega, List.set_cons_zero, List.take_succ_eq_append_getElem h, List.reverse_append]
  simp
theorem row6_end (z : Nat) (D : List Nat) : row6 z D D.length = (enc z D).map UInt8.toNat := by
  simp [row6, enc, al, List.map_append, List.map_reverse]
theorem enc_len (z : Nat) (D : List Nat) : (enc z D).length = z + D.length := by simp [enc]

theorem conv_out {B : Nat} {w : World} {g z n : Nat} {D : List Nat} (hn : n = z + D.length) (h : Own B w g (row6 z D D.length) n) :
    (convert 22 9 (.slice (some ⟨g, 0, none⟩) n n)).run Try.prog w = .ok (.string ⟨(enc z D).toArray⟩) w := by
  have hl : n = (enc z D).length := by rw [enc_len]; exact hn
  have hc := h.cell
  rw [hl]
  refine run_convert_bytes_back _ 22 9 5 _ _ (enc z D) Try.underlying22 Try.underlying5 Try.underlying9 ?_
  intro j hj
  have e : (⟨g, 0, none⟩ : Addr).add j = ⟨g, j, none⟩ := by simp [Addr.add]; exact fun h => h.symm
  have hj' : j < (row6 z D D.length).length := by rw [row6_end]; simpa using hj
  rw [e, hc j hj']
  simp [row6_end]

set_option maxHeartbeats 1000000 in
theorem enc_main (b z m : Nat) (X : List Nat) (w : World) (hX : X.length = z + m) (hn : z + m ≤ 4097) (hm : 0 < m) (hb : b < w.heap.size) (hall : ∀ x ∈ X, x < 256)
    (hc : ∀ j (h : j < X.length), w.cell? ⟨b, j, none⟩ = some (.int .u8 (X[j] : Int))) (hz0 : ∀ j (h : j < X.length), j < z → X[j] = 0) (hz1 : ∀ h : z < X.length, X[z] ≠ 0) :
    Calls Try.prog 13 #[.slice (some ⟨b, 0, none⟩) (z + m) (z + m)] w fun e w' => (∃ D, Inv 58 D (val 256 (X.drop z)) ∧ e = .returned (.string ⟨(enc z D).toArray⟩)) ∧ Below w.heap.size w w' := by
  obtain ⟨i0, hi, hq0, hq1, hq2⟩ := info_parts info5
  have HC : Hid (∀ j (h : j < X.length), w.cell? ⟨b, j, none⟩ = some (.int .u8 (X[j] : Int))) := hc
  have HX : Hid (X.length = z + m) := hX
  have HA : Hid (∀ x ∈ X, x < 256) := hall
  have HZ : Hid (∀ j (h : j < X.length), j < z → X[j] = 0) := hz0
  have HN : Hid (∀ h : z < X.length, X[z] ≠ 0) := hz1
  clear hc hX hall hz0 hz1
  go_enter Try.func13, Try.ntmps13
  go_wp2
  go_loop [3] (fun i => ∃ k : Nat, k ≤ z ∧ i = .int .i64 (k : Int)) (fun i => z - (intOf i).toNat)
  case atStart => exact ⟨0, by omega, rfl⟩
  case round =>
    obtain ⟨k, hk, rfl⟩ := hrel
    have hkX : k < X.length := by rw [HX.out]; omega
    have hcell := HC.out k hkX
    by_cases hlt : k < z
    · rw [HZ.out k hkX hlt] at hcell
      go_wp2
      go_round
      case rel => exact ⟨k + 1, by omega, by go_num⟩
      case measure => simp [intOf]; omega
    · obtain rfl : z = k := by omega
      have hnz : ((X[z] : Int) == 0) = false := by have := HN.out hkX; simp; omega
      go_wp2_with (at_make; refine wpList_make_own _ rfl _ _ 22 rfl w.heap.size 5 i0 (.int .u8 0) 1 Try.underlying22 hi hq0 hq1 _ _ _ (m * 137 / 100 + 1) rfl rfl (by omega) ?b2 ?b3 (Nat.le_refl _) ?_)
      case b2 => first | (rw [hq2]; omega) | omega
      case b3 => unfold maxLen; omega
      intro w0 hown0 hgrow0
      have HO : Hid (Own w.heap.size w0 w.heap.size [] (m * 137 / 100 + 1)) := hown0
      have hB : Below w.heap.size w w0 := (Below.refl _ _).grown hgrow0 (Nat.le_refl _) (fun k h => by cases h)
      clear hown0 hgrow0 hcell hnz
      have hne : ¬ m = 0 := by omega
      go_wp2
      go_loopw [4, 38] (fun v i wr => ∃ (k : Nat) (D : List Nat), k ≤ m ∧ i = .int .i64 (k : Int) ∧ v = .slice (some ⟨w.heap.size, 0, none⟩) D.length (m * 137 / 100 + 1) ∧ Hid (Own w.heap.size wr w.heap.size D (m * 137 / 100 + 1)) ∧
          Hid (Inv 58 D (val 256 ((X.drop z).take k))) ∧ Below w.heap.size w wr) (fun _ i _ => m - (intOf i).toNat)
      case atStart => exact ⟨0, [], by omega, rfl, rfl, HO, ⟨by simp, rfl, .inl rfl⟩, hB⟩
      case round =>
        obtain ⟨k, D, hkm, rfl, rfl, HW, HI, hbel⟩ := hrel
        obtain ⟨wo, rfl⟩ : ∃ wo : World, wo = wr := ⟨_, rfl⟩
        by_cases hklt : k < m
        · have hzk : z + k < X.length := by rw [HX.out]; omega
          have hcz : wo.cell? ⟨b, z + k, none⟩ = some (.int .u8 (X[z + k] : Int)) := (hbel.cell (by exact hb)).trans (HC.out (z + k) hzk)
          have hx256 : X[z + k] < 256 := HA.out _ (List.getElem_mem hzk)
          have HT : Hid (val 256 ((X.drop z).take (k + 1)) = val 256 ((X.drop z).take k) * 256 + X[z + k]) := val_drop_succ 256 X z k hzk
          have HTm : Hid (val 256 ((X.drop z).take k) * 256 + X[z + k] < 256 ^ m) := by
            show _ < _
            rw [← HT.out]
            exact val_drop_lt 256 X z m k (by omega) (by rw [HX.out]) (by omega) HA.out
          generalize X[z + k] = x at hcz hx256 HT HTm
          have hL : D.length ≤ m * 137 / 100 + 1 := Own_le HW.out
          generalize val 256 ((X.drop z).take k) = v at HI HT HTm
          go_wp2
          go_loopw [7, 46] (fun cv iv wr => ∃ (i c : Nat) (E : List Nat), i ≤ D.length ∧ iv = .int .i64 (i : Int) ∧ cv = .int .i64 (c : Int) ∧ c < 256 ∧ Hid (E.length = D.length) ∧ Hid (∀ d ∈ E, d < 58) ∧ Hid (Mid 58 256 E i c (v * 256 + x)) ∧
              Hid (Own w.heap.size wr w.heap.size E (m * 137 / 100 + 1)) ∧ Below w.heap.size w wr) (fun _ iv _ => D.length - (intOf iv).toNat)
          case atStart => exact ⟨0, x, D, by omega, rfl, rfl, hx256, rfl, HI.out.1, Mid_start 58 256 D v x HI.out, HW, hbel⟩
          case round =>
            obtain ⟨i, c, E, hiL, rfl, rfl, hc256, HE, HE58, HM, HWE, hbelE⟩ := hrel
            by_cases hilt : i < D.length
            · have hiE : i < E.length := by rw [HE.out]; exact hilt
              have hce : wr.cell? ⟨w.heap.size, i, none⟩ = some (.int .u8 (E[i] : Int)) := HWE.out.cell i hiE
              have hfe : wr.frozen? ⟨w.heap.size, i, none⟩ = false := HWE.out.free i
              have hd58 : E[i] < 58 := HE58.out _ (List.getElem_mem hiE)
              have HM' : Hid (Mid 58 256 (E.set i ((c + 256 * E[i]) % 58)) (i + 1) ((c + 256 * E[i]) / 58) (v * 256 + x)) := Mid_step 58 256 E i c _ hiE HM.out
              have HC' : Hid ((c + 256 * E[i]) / 58 < 256) := carry_lt 58 256 c E[i] hc256 hd58
              have HS' : Hid (Own w.heap.size (wr.setCell ⟨w.heap.size, i, none⟩ (.int .u8 (((c : Int) + (E[i] : Int) * 256) % 58))) w.heap.size (E.set i ((c + 256 * E[i]) % 58)) (m * 137 / 100 + 1)) := store58 HWE.out i c E[i]
              have HA' : Hid (∀ d ∈ E.set i ((c + 256 * E[i]) % 58), d < 58) := all_set 58 E i _ HE58.out (Nat.mod_lt _ (by omega))
              have HL' : Hid ((E.set i ((c + 256 * E[i]) % 58)).length = D.length) := by show _ = _; rw [List.length_set]; exact HE.out
              generalize E.set i ((c + 256 * E[i]) % 58) = E' at HM' HS' HA' HL'
              generalize E[i] = d at hce hd58 HM' HC' HS'
              go_wp2
              go_roundw
              case rel => exact ⟨i + 1, (c + 256 * d) / 58, E', by omega, by go_num, by go_num, HC', HL', HA', HM', HS', hbelE.setCell (by exact Nat.le_refl _) _⟩
              case measure => simp [intOf]; omega
            · obtain rfl : i = D.length := by omega
              have HP : Hid (Push 58 E c (v * 256 + x)) := by
                have hm' := HM.out
                rw [← HE.out] at hm'
                exact Mid_end 58 256 E c v x (by omega) HE58.out (by rw [HE.out]; exact HI.out.2.2) hm'
              obtain ⟨wi, rfl⟩ : ∃ wi : World, wi = wr := ⟨_, rfl⟩
              clear HM HE58 HI HW
              go_wp2
              go_loopw [4, 7] (fun sv cv wr => ∃ (c : Nat) (F : List Nat), sv = .slice (some ⟨w.heap.size, 0, none⟩) F.length (m * 137 / 100 + 1) ∧ cv = .int .i64 (c : Int) ∧ c < 256 ∧ Hid (Push 58 F c (v * 256 + x)) ∧
                  Hid (Own w.heap.size wr w.heap.size F (m * 137 / 100 + 1)) ∧ Below w.heap.size w wr) (fun _ cv _ => (intOf cv).toNat)
              case atStart => exact ⟨c, E, by rw [HE.out], rfl, hc256, HP, HWE, hbelE⟩
              case round =>
                obtain ⟨c, F, rfl, rfl, hc256, HPF, HWF, hbelF⟩ := hrel
                by_cases hc0 : 0 < c
                · have hroom : F.length + 1 ≤ m * 137 / 100 + 1 := room m F.length _ HTm.out (Push_pow 58 F c _ hc0 HPF.out)
                  have HPN : Hid (Push 58 (F ++ [c % 58]) (c / 58) (v * 256 + x)) := Push_step 58 F c _ (by omega) hc0 HPF.out
                  go_wp2_with (at_builtin; refine wpList_append_fits _ rfl (.tmp 68) (.tmp 72) 22 rfl w.heap.size 5 i0 1 Try.underlying22 hi hq1 w.heap.size F.length (m * 137 / 100 + 1) (cs F) rfl (World.ownsRow.alloc HWF.out _) ⟨wr.heap.size, 0, none⟩ 1 1 [.int .u8 ((c : Int) % 58)] rfl rfl (one_new _ _) (by intro u hu; simp at hu; subst hu; rfl) hroom ?_; intro w1 hown1 hgrow1; have HOwn : Hid (Own w.heap.size w1 w.heap.size (F ++ [c % 58]) (m * 137 / 100 + 1)) := own_push hown1; have HBel : Hid (Below w.heap.size w w1) := (hbelF.alloc hbelF.size _).grown hgrow1 (by simp; have := hbelF.size; omega) (fun k hk => by cases hk; exact Nat.le_refl _); clear hown1 hgrow1)
                  go_roundw
                  case rel => exact ⟨c / 58, F ++ [c % 58], by simp, by go_num, by omega, HPN, HOwn, HBel.out⟩
                  case measure => simp [intOf]; omega
                · obtain rfl : c = 0 := by omega
                  go_wp2
                  go_roundw
                  case rel => exact ⟨k + 1, F, by omega, by go_num, rfl, HWF, by show Inv _ _ _; rw [HT.out]; exact Push_end 58 F _ HPF.out, hbelF⟩
                  case measure => simp [intOf]; omega
        · obtain rfl : m = k := by omega
          have hL : D.length ≤ m * 137 / 100 + 1 := Own_le HW.out
          have HV : Hid (Inv 58 D (val 256 (X.drop z))) := by
            have h := HI.out
            rwa [List.take_of_length_le (by rw [List.length_drop, HX.out]; omega)] at h
          clear HI HO hB
          go_wp2_with (at_make; refine wpList_make_full _ rfl _ _ 22 rfl w.heap.size 5 i0 (.int .u8 0) 1 Try.underlying22 hi hq0 hq1 _ _ _ _ (z + D.length) rfl rfl (by omega) (by omega) ?b4 ?b5 hbel.size ?_)
          case b4 => first | (rw [hq2]; omega) | omega
          case b5 => unfold maxLen; omega
          intro w2 hown2 hgrow2
          have hlt1 : w.heap.size < wo.heap.size := HW.out.lt.2
          have HG : Hid (Own w.heap.size w2 wo.heap.size (List.replicate (z + D.length) 0) (z + D.length)) := own_made hown2
          have HD : Hid (Own w.heap.size w2 w.heap.size D (m * 137 / 100 + 1)) := HW.out.grown hgrow2 (by simp)
          have hbel2 : Below w.heap.size w w2 := hbel.grown hgrow2 hbel.size (fun k h => by cases h)
          clear hown2 hgrow2 HW
          generalize wo.heap.size = g at *
          go_wp2
          go_loopw [10] (fun iv wr => ∃ k : Nat, k ≤ z ∧ iv = .int .i64 (k : Int) ∧ Hid (Own w.heap.size wr g (row5 z D.length k) (z + D.length)) ∧ Hid (Own w.heap.size wr w.heap.size D (m * 137 / 100 + 1)) ∧ Below w.heap.size w wr) (fun iv _ => z - (intOf iv).toNat)
          case atStart => exact ⟨0, by omega, rfl, by show Own _ _ _ _ _; rw [row5_zero]; exact HG.out, HD, hbel2⟩
          case round =>
            obtain ⟨k, hkz, rfl, HGr, HDr, hbr⟩ := hrel
            by_cases hkl : k < z
            · obtain ⟨old, hold⟩ : ∃ old, wr.cell? ⟨g, k, none⟩ = some old := ⟨_, HGr.out.cell k (by rw [row5_len _ _ _ (by omega)]; omega)⟩
              have hfr : wr.frozen? ⟨g, k, none⟩ = false := HGr.out.free k
              have HS : Hid (Own w.heap.size (wr.setCell ⟨g, k, none⟩ (.int .u8 49)) g (row5 z D.length (k + 1)) (z + D.length)) := by
                show Own _ _ _ _ _
                have h := HGr.out.store k 49
                rwa [row5_set _ _ _ (by omega)] at h
              have HSD : Hid (Own w.heap.size (wr.setCell ⟨g, k, none⟩ (.int .u8 49)) w.heap.size D (m * 137 / 100 + 1)) := HDr.out.other g k (by omega) _
              go_wp2
              go_roundw
              case rel => exact ⟨k + 1, by omega, by go_num, HS, HSD, hbr.setCell (by exact Nat.le_of_lt hlt1) _⟩
              case measure => simp [intOf]; omega
            · obtain rfl : z = k := by omega
              obtain ⟨w5, rfl⟩ : ∃ w5 : World, w5 = wr := ⟨_, rfl⟩
              go_wp2
              go_loopw [93] (fun iv wr => ∃ i : Nat, i ≤ D.length ∧ iv = .int .i64 (i : Int) ∧ Hid (Own w.heap.size wr g (row6 z D i) (z + D.length)) ∧ Hid (Own w.heap.size wr w.heap.size D (m * 137 / 100 + 1)) ∧ Below w.heap.size w wr) (fun iv _ => D.length - (intOf iv).toNat)
              case atStart => exact ⟨0, by omega, rfl, by show Own _ _ _ _ _; rw [← row5_row6]; exact HGr.out, HDr, hbr⟩
              case round =>
                obtain ⟨i, hiL, rfl, HG6, HD6, hb6⟩ := hrel
                by_cases hil : i < D.length
                · have hcd : wr.cell? ⟨w.heap.size, i, none⟩ = some (.int .u8 (D[i] : Int)) := HD6.out.cell i hil
                  have hd58 : D[i] < 58 := HV.out.1 _ (List.getElem_mem hil)
                  have hix := idx_alpha D[i] hd58
                  obtain ⟨old, hold⟩ : ∃ old, wr.cell? ⟨g, z + D.length - 1 - i, none⟩ = some old := ⟨_, HG6.out.cell _ (by rw [row6_len _ _ _ (by omega)]; omega)⟩
                  have hfr : wr.frozen? ⟨g, z + D.length - 1 - i, none⟩ = false := HG6.out.free _
                  have HS : Hid (Own w.heap.size (wr.setCell ⟨g, z + D.length - 1 - i, none⟩ (.int .u8 ((alpha D[i]).toNat : Int))) g (row6 z D (i + 1)) (z + D.length)) := by
                    show Own _ _ _ _ _
                    have h := HG6.out.store (z + D.length - 1 - i) (al D[i])
                    rwa [row6_set z D i hil] at h
                  have HSD : Hid (Own w.heap.size (wr.setCell ⟨g, z + D.length - 1 - i, none⟩ (.int .u8 ((alpha D[i]).toNat : Int))) w.heap.size D (m * 137 / 100 + 1)) := HD6.out.other g _ (by omega) _
                  generalize D[i] = d at hcd hd58 hix HS HSD
                  go_wp2
                  go_roundw
                  case rel => exact ⟨i + 1, by omega, by go_num, HS, HSD, hb6.setCell (by exact Nat.le_of_lt hlt1) _⟩
                  case measure => simp [intOf]; omega
                · obtain rfl : D.length = i := by omega
                  have hcv := conv_out rfl HG6.out
                  go_wp2
                  go_ret
                  exact ⟨⟨D, HV.out, rfl⟩, hb6⟩
end Go.Proofs.Qxb6604282a.WalkEnc
