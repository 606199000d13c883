/-
  THE WALK OF zzB58Decode ON A TEXT OF DIGITS.
-/
import Derived.Test.Qxb6604282aWalkDig
namespace Go.Proofs.Qxb6604282a.Dec
open Go.ChangeShapes Go.WideShapes Go.ChangeAt Go.RowKit
open Go.Proofs.Qxb6604282a.Num Go.Proofs.Qxb6604282a.WalkBase Go.Proofs.Qxb6604282a.WalkEnc Go.Proofs.Qxb6604282a.Laws Go.Proofs.Qxb6604282a.LawEnc
set_option linter.unusedVariables false

theorem and255 (n : Int) : bits .and .i64 n 255 = n % 256 := by
  have h255 : (BitVec.ofInt 64 255).toNat = 2 ^ 8 - 1 := by decide
  have key : (BitVec.ofInt 64 n &&& BitVec.ofInt 64 255).toNat = (n % ((2 ^ 64 : Nat) : Int)).toNat % 2 ^ 8 := by
    rw [BitVec.toNat_and, BitVec.toNat_ofInt, h255, Nat.and_two_pow_sub_one_eq_mod]
  show IntKind.i64.wrap ((BitVec.ofInt 64 n &&& BitVec.ofInt 64 255).toNat : Nat) = n % 256
  rw [key, IntKind.wrap_i64]
  omega

theorem store256 {B : Nat} {w : World} {g : Nat} {E : List Nat} {cap : Nat} (h : Own B w g E cap) (i c d : Nat) :
    Own B (w.setCell ⟨g, i, none⟩ (.int .u8 (((c : Int) + (d : Int) * 58) % 256))) g (E.set i ((c + 58 * d) % 256)) cap := by
  have e : ((c : Int) + (d : Int) * 58) % 256 = (((c + 58 * d) % 256 : Nat) : Int) := by omega
  rw [e]
  exact h.store i _
theorem store256' {B : Nat} {w : World} {g : Nat} {E : List Nat} {cap : Nat} (h : Own B w g E cap) (i c : Nat) :
    Own B (w.setCell ⟨g, i, none⟩ (.int .u8 ((c : Int) % 256))) g (E.set i (c % 256)) cap := by
  have e : (c : Int) % 256 = ((c % 256 : Nat) : Int) := by omega
  rw [e]
  exact h.store i _

theorem rowD_set' (z : Nat) (A : List Nat) (j u x : Nat) (h : j < A.length) (hA : A.length = u) (hx : A[j] = x) : (rowD z A j).set (z + u - 1 - j) x = rowD z A (j + 1) := by
  subst hA
  subst hx
  exact rowD_set z A j h

set_option maxHeartbeats 1000000 in
theorem decode_main (z : Nat) (F : List Nat) (S : ByteArray) (w : World) (hsz : S.size = z + F.length) (hN : z + F.length ≤ 8192) (hL : 0 < F.length) (hF : ∀ d ∈ F, d < 58)
    (h1 : ∀ j (h : j < S.size), j < z → (((S[j]'h).toNat : Int) == 49) = true) (h2 : ∀ h : z < S.size, (((S[z]'h).toNat : Int) == 49) = false)
    (h3 : ∀ k (h : k < F.length) (h' : z + k < S.size), ((S[z + k]'h').toNat : Int) = (al F[k] : Int)) :
    Calls Try.prog 9 #[.string S] w fun e w' => (∃ A g, e = .returned (.tuple #[.slice (some ⟨g, 0, none⟩) (z + A.length) (z + A.length), .bool true]) ∧ Inv 256 A (val 58 F) ∧ Own w.heap.size w' g (List.replicate z 0 ++ A.reverse) (z + A.length)) ∧ Below w.heap.size w w' := by
  obtain ⟨i0, hi, hq0, hq1, hq2⟩ := info_parts info5
  have H1 : Hid (∀ j (h : j < S.size), j < z → (((S[j]'h).toNat : Int) == 49) = true) := h1
  have H3 : Hid (∀ k (h : k < F.length) (h' : z + k < S.size), ((S[z + k]'h').toNat : Int) = (al F[k] : Int)) := h3
  have HF : Hid (∀ d ∈ F, d < 58) := hF
  have HS : Hid (S.size = z + F.length) := hsz
  have hzS : z < S.size := by omega
  have hS8 : S.size ≤ 8192 := by omega
  have t49 := h2 hzS
  clear h1 h2 h3 hF hsz
  go_enter Try.func9, Try.ntmps9
  go_wp2
  go_loop [4] (fun i => ∃ k : Nat, k ≤ z ∧ i = .int .i64 (k : Int)) (fun i => z - (intOf i).toNat)
  case atStart => exact ⟨0, by omega, rfl⟩
  case round =>
    obtain ⟨k, hk, rfl⟩ := hrel
    by_cases hlt : k < z
    · have hkS : k < S.size := by omega
      have tk := H1.out k hkS hlt
      go_wp2
      go_round
      case rel => exact ⟨k + 1, by omega, by go_num⟩
      case measure => simp [intOf]; omega
    · obtain rfl : z = k := by omega
      go_wp2_with (at_make; refine wpList_make_full _ rfl _ _ 22 rfl w.heap.size 5 i0 (.int .u8 0) 1 Try.underlying22 hi hq0 hq1 _ _ _ _ S.size rfl rfl rfl rfl ?b4 ?b5 (Nat.le_refl _) ?_)
      case b4 => first | (rw [hq2]; omega) | omega
      case b5 => unfold maxLen; omega
      intro w1 hown1 hgrow1
      have HO : Hid (Own w.heap.size w1 w.heap.size (List.replicate S.size 0) S.size) := own_made hown1
      have hB : Below w.heap.size w w1 := (Below.refl _ _).grown hgrow1 (Nat.le_refl _) (fun k h => by cases h)
      clear hown1 hgrow1
      go_wp2
      go_loopw [6, 7] (fun uv iv wr => ∃ (i u : Nat) (R : List Nat), z ≤ i ∧ i ≤ S.size ∧ u ≤ S.size ∧ iv = .int .i64 (i : Int) ∧ uv = .int .i64 (u : Int) ∧ Hid (R.length = S.size) ∧ Hid (Inv 256 (R.take u) (val 58 (F.take (i - z)))) ∧ Hid (Own w.heap.size wr w.heap.size R S.size) ∧ Below w.heap.size w wr) (fun _ iv _ => S.size - (intOf iv).toNat)
      case atStart => exact ⟨z, 0, List.replicate S.size 0, by omega, by omega, by omega, rfl, rfl, by show _ = _; simp, by show Inv _ _ _; rw [Nat.sub_self]; exact ⟨by simp, rfl, .inl rfl⟩, HO, hB⟩
      case round =>
        obtain ⟨i, u, R, hzi, hiS, huS, rfl, rfl, HR, HI, HW, hbel⟩ := hrel
        obtain ⟨wo, rfl⟩ : ∃ wo : World, wo = wr := ⟨_, rfl⟩
        by_cases hil : i < S.size
        · have hkF : i - z < F.length := by have := HS.out; omega
          have hd58 : F[i - z] < 58 := HF.out _ (List.getElem_mem hkF)
          have hcd : ((S[i]'hil).toNat : Int) = (al F[i - z] : Int) := by
            have h := H3.out (i - z) hkF (by omega)
            simpa [show z + (i - z) = i by omega] using h
          have HT : Hid (val 58 (F.take (i + 1 - z)) = val 58 (F.take (i - z)) * 58 + F[i - z]) := by
            show _ = _
            rw [show i + 1 - z = (i - z) + 1 by omega]
            exact val_take_succ 58 F (i - z) hkF
          have HTm : Hid (val 58 (F.take (i - z)) * 58 + F[i - z] < 58 ^ (i + 1 - z)) := by
            show _ < _
            rw [← HT.out]
            have h := val_lt 58 (F.take (i + 1 - z)) (fun x hx => HF.out x (List.mem_of_mem_take hx))
            rwa [List.length_take, Nat.min_eq_left (by have := HS.out; omega)] at h
          have HCD : Hid (((S[i]'hil).toNat : Int) = (al F[i - z] : Int)) := hcd
          clear hcd t49
          generalize F[i - z] = d at hd58 HT HTm HCD
          generalize val 58 (F.take (i - z)) = v at HI HT HTm
          go_wp2_with fail
          refine (digit_any d _ hd58 HCD.out _).mono ?_
          rintro e w2 ⟨rfl, rfl⟩
          go_wp2_with fail
          go_loopw [9, 10] (fun cv jv wr => ∃ (j c : Nat) (E : List Nat), j ≤ u ∧ jv = .int .i64 (j : Int) ∧ cv = .int .i64 (c : Int) ∧ c < 58 ∧ Hid (E.length = S.size) ∧ Hid (∀ d ∈ E.take u, d < 256) ∧ Hid (Mid 256 58 (E.take u) j c (v * 58 + d)) ∧
              Hid (Own w.heap.size wr w.heap.size E S.size) ∧ Below w.heap.size w wr) (fun _ jv _ => u - (intOf jv).toNat)
          case atStart => exact ⟨0, d, R, by omega, rfl, rfl, hd58, HR, HI.out.1, Mid_start 256 58 _ v d HI.out, HW, hbel⟩
          case round =>
            obtain ⟨j, c, E, hju, rfl, rfl, hc58, HE, HE256, HM, HWE, hbelE⟩ := hrel
            by_cases hjl : j < u
            · have hjE : j < E.length := by rw [HE.out]; omega
              have hce : wr.cell? ⟨w.heap.size, j, none⟩ = some (.int .u8 (E[j] : Int)) := HWE.out.cell j hjE
              have hfe : wr.frozen? ⟨w.heap.size, j, none⟩ = false := HWE.out.free j
              have hjT : j < (E.take u).length := by rw [List.length_take]; omega
              have hTj : (E.take u)[j] = E[j] := List.getElem_take
              have ha256 : E[j] < 256 := by rw [← hTj]; exact HE256.out _ (List.getElem_mem hjT)
              have HM' : Hid (Mid 256 58 ((E.set j ((c + 58 * E[j]) % 256)).take u) (j + 1) ((c + 58 * E[j]) / 256) (v * 58 + d)) := by
                have h := Mid_step 256 58 (E.take u) j c _ hjT HM.out
                rw [hTj] at h
                show Mid _ _ _ _ _ _
                rw [take_set_lt E u j _ hjl]
                exact h
              have HC' : Hid ((c + 58 * E[j]) / 256 < 58) := carry_lt 256 58 c E[j] hc58 ha256
              have HS' : Hid (Own w.heap.size (wr.setCell ⟨w.heap.size, j, none⟩ (.int .u8 (((c : Int) + (E[j] : Int) * 58) % 256))) w.heap.size (E.set j ((c + 58 * E[j]) % 256)) S.size) := store256 HWE.out j c E[j]
              have HA' : Hid (∀ d ∈ (E.set j ((c + 58 * E[j]) % 256)).take u, d < 256) := by
                show ∀ d ∈ _, d < 256
                rw [take_set_lt E u j _ hjl]
                exact all_set 256 _ j _ HE256.out (Nat.mod_lt _ (by omega))
              have HL' : Hid ((E.set j ((c + 58 * E[j]) % 256)).length = S.size) := by show _ = _; rw [List.length_set]; exact HE.out
              have hab := and255 ((c : Int) + (E[j] : Int) * 58)
              generalize E.set j ((c + 58 * E[j]) % 256) = E' at HM' HS' HA' HL'
              clear hTj hjT
              generalize E[j] = a at hce ha256 HM' HC' HS' hab
              go_wp2
              go_roundw
              case rel => exact ⟨j + 1, (c + 58 * a) / 256, E', by omega, by go_num, by go_num, HC', HL', HA', HM', HS', hbelE.setCell (by exact Nat.le_refl _) _⟩
              case measure => simp [intOf]; omega
            · obtain rfl : u = j := by omega
              have HP : Hid (Push 256 (E.take u) c (v * 58 + d)) := by
                have hlen : (E.take u).length = u := by rw [List.length_take, HE.out]; omega
                have hlenR : (R.take u).length = u := by rw [List.length_take, HR.out]; omega
                have hlow := HI.out.2.2
                rw [hlenR] at hlow
                exact Mid_end 256 58 (E.take u) c v d (by omega) HE256.out (by rw [hlen]; exact hlow) (by rw [hlen]; exact HM.out)
              obtain ⟨wi, rfl⟩ : ∃ wi : World, wi = wr := ⟨_, rfl⟩
              clear HM HE256 HI HW
              go_wp2
              go_loopw [6, 9] (fun uv cv wr => ∃ (c u' : Nat) (G : List Nat), u' ≤ S.size ∧ uv = .int .i64 (u' : Int) ∧ cv = .int .i64 (c : Int) ∧ c < 58 ∧ Hid (G.length = S.size) ∧ Hid (Push 256 (G.take u') c (v * 58 + d)) ∧
                  Hid (Own w.heap.size wr w.heap.size G S.size) ∧ Below w.heap.size w wr) (fun _ cv _ => (intOf cv).toNat)
              case atStart => exact ⟨c, u, E, huS, rfl, rfl, hc58, HE, HP, HWE, hbelE⟩
              case round =>
                obtain ⟨c, u', G, hu'S, rfl, rfl, hc58, HGl, HPG, HWG, hbelG⟩ := hrel
                by_cases hc0 : 0 < c
                · have hlenG : (G.take u').length = u' := by rw [List.length_take, HGl.out]; omega
                  have hroom : u' < S.size := by
                    have hp := Push_pow 256 (G.take u') c _ hc0 HPG.out
                    rw [hlenG] at hp
                    have h := room2 F.length (i + 1 - z) u' _ (by have := HS.out; omega) HTm.out hp
                    have := HS.out
                    omega
                  have hu'G : u' < G.length := by rw [HGl.out]; exact hroom
                  have HPN : Hid (Push 256 ((G.set u' (c % 256)).take (u' + 1)) (c / 256) (v * 58 + d)) := by
                    show Push _ _ _ _
                    rw [take_push G u' _ hu'G]
                    exact Push_step 256 _ c _ (by omega) hc0 HPG.out
                  obtain ⟨old, hold⟩ : ∃ old, wr.cell? ⟨w.heap.size, u', none⟩ = some old := ⟨_, HWG.out.cell u' hu'G⟩
                  have hfr : wr.frozen? ⟨w.heap.size, u', none⟩ = false := HWG.out.free u'
                  have HSN : Hid (Own w.heap.size (wr.setCell ⟨w.heap.size, u', none⟩ (.int .u8 ((c : Int) % 256))) w.heap.size (G.set u' (c % 256)) S.size) := store256' HWG.out u' c
                  have HLN : Hid ((G.set u' (c % 256)).length = S.size) := by show _ = _; rw [List.length_set]; exact HGl.out
                  have hab := and255 (c : Int)
                  clear hlenG
                  go_wp2
                  go_roundw
                  case rel => exact ⟨c / 256, u' + 1, G.set u' (c % 256), by omega, by go_num, by go_num, by omega, HLN, HPN, HSN, hbelG.setCell (by exact Nat.le_refl _) _⟩
                  case measure => simp [intOf]; omega
                · obtain rfl : c = 0 := by omega
                  go_wp2
                  go_roundw
                  case rel => exact ⟨i + 1, u', G, by omega, by omega, hu'S, by go_num, rfl, HGl, by show Inv _ _ _; rw [HT.out]; exact Push_end 256 _ _ HPG.out, HWG, hbelG⟩
                  case measure => simp [intOf]; omega
        · have HV : Hid (Inv 256 (R.take u) (val 58 F)) := by
            have h := HI.out
            rwa [show F.take (i - z) = F from List.take_of_length_le (by have := HS.out; omega)] at h
          have HAl : Hid ((R.take u).length = u) := by show _ = _; rw [List.length_take, HR.out]; omega
          clear HI HO hB t49
          go_wp2_with (at_make; refine wpList_make_full _ rfl _ _ 22 rfl w.heap.size 5 i0 (.int .u8 0) 1 Try.underlying22 hi hq0 hq1 _ _ _ _ (z + u) rfl rfl (by omega) (by omega) ?b6 ?b7 hbel.size ?_)
          case b6 => first | (rw [hq2]; omega) | omega
          case b7 => unfold maxLen; omega
          intro w2 hown2 hgrow2
          have hlt1 : w.heap.size < wo.heap.size := HW.out.lt.2
          have HG : Hid (Own w.heap.size w2 wo.heap.size (rowD z (R.take u) 0) (z + u)) := by
            show Own _ _ _ _ _
            rw [rowD_zero, HAl.out]
            exact own_made hown2
          have HD : Hid (Own w.heap.size w2 w.heap.size R S.size) := HW.out.grown hgrow2 (by simp)
          have hbel2 : Below w.heap.size w w2 := hbel.grown hgrow2 hbel.size (fun k h => by cases h)
          clear hown2 hgrow2 HW hbel
          generalize wo.heap.size = g at *
          go_wp2
          go_loopw [12] (fun jv wr => ∃ j : Nat, j ≤ u ∧ jv = .int .i64 (j : Int) ∧ Hid (Own w.heap.size wr g (rowD z (R.take u) j) (z + u)) ∧ Hid (Own w.heap.size wr w.heap.size R S.size) ∧ Below w.heap.size w wr) (fun jv _ => u - (intOf jv).toNat)
          case atStart => exact ⟨0, by omega, rfl, HG, HD, hbel2⟩
          case round =>
            obtain ⟨j, hju, rfl, HGr, HDr, hbr⟩ := hrel
            by_cases hjl : j < u
            · have hjR : j < R.length := by rw [HR.out]; omega
              have hjT : j < (R.take u).length := by rw [HAl.out]; exact hjl
              have hcd : wr.cell? ⟨w.heap.size, j, none⟩ = some (.int .u8 (R[j] : Int)) := HDr.out.cell j hjR
              obtain ⟨old, hold⟩ : ∃ old, wr.cell? ⟨g, z + u - 1 - j, none⟩ = some old := ⟨_, HGr.out.cell _ (by rw [rowD_len _ _ _ (by omega), HAl.out]; omega)⟩
              have hfr : wr.frozen? ⟨g, z + u - 1 - j, none⟩ = false := HGr.out.free _
              have HSN : Hid (Own w.heap.size (wr.setCell ⟨g, z + u - 1 - j, none⟩ (.int .u8 (R[j] : Int))) g (rowD z (R.take u) (j + 1)) (z + u)) := by
                show Own _ _ _ _ _
                have h := HGr.out.store (z + u - 1 - j) R[j]
                rwa [rowD_set' z (R.take u) j u R[j] hjT HAl.out List.getElem_take] at h
              have HSD : Hid (Own w.heap.size (wr.setCell ⟨g, z + u - 1 - j, none⟩ (.int .u8 (R[j] : Int))) w.heap.size R S.size) := HDr.out.other g _ (by omega) _
              generalize R[j] = x at hcd HSN HSD
              clear hjT
              go_wp2
              go_roundw
              case rel => exact ⟨j + 1, by omega, by go_num, HSN, HSD, hbr.setCell (by exact Nat.le_of_lt hlt1) _⟩
              case measure => simp [intOf]; omega
            · obtain rfl : u = j := by omega
              have HE : Hid (Own w.heap.size wr g (List.replicate z 0 ++ (R.take u).reverse) (z + (R.take u).length)) := by
                show Own _ _ _ _ _
                have h := HGr.out
                rw [show rowD z (R.take u) u = rowD z (R.take u) (R.take u).length by rw [HAl.out], rowD_end] at h
                rw [HAl.out]
                exact h
              go_wp2
              go_ret2
              exact ⟨⟨R.take u, g, by rw [HAl.out]; rfl, HV.out, HE.out⟩, hbr⟩
end Go.Proofs.Qxb6604282a.Dec
