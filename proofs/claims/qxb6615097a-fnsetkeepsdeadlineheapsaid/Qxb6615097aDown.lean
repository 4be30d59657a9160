/- container/heap: down, over the deadline heap. -/
import Derived.Test.Qxb6615097aUp
namespace Go.Proofs.Qxb6615097a
open Go.RowKit

section
variable {B n : Nat} {w w' : World} {db mb : Nat} {dv : Value} {E : List UInt8 → Option Ent} {hp : List (List UInt8)}

theorem downL_stop (f : List UInt8 → Int) (nn m i : Nat) (hp : List (List UInt8)) (h : nn ≤ 2 * i + 1 ∨ ¬ f (hp.getD (kid f nn hp i) []) < f (hp.getD i [])) : downL f nn m hp i = (hp, i) := by
  cases m with
  | zero => rfl
  | succ m => rw [downL, if_pos h]
theorem downL_go (f : List UInt8 → Int) (nn m i : Nat) (hp : List (List UInt8)) (h1 : 2 * i + 1 < nn) {k : Nat} (hk : kid f nn hp i = k) (h2 : f (hp.getD k []) < f (hp.getD i [])) : downL f nn (m + 1) hp i = downL f nn m (swp hp i k) k := by
  subst hk
  rw [downL, if_neg (by omega)]

theorem kid_two (f : List UInt8 → Int) (nn i : Nat) (hp : List (List UInt8)) (h1 : 2 * i + 1 + 1 < nn) (h2 : f (hp.getD (2 * i + 1 + 1) []) < f (hp.getD (2 * i + 1) [])) : kid f nn hp i = 2 * i + 1 + 1 := by
  unfold kid; rw [if_pos ⟨h1, h2⟩]
theorem kid_one (f : List UInt8 → Int) (nn i : Nat) (hp : List (List UInt8)) (h : ¬ 2 * i + 1 + 1 < nn ∨ ¬ f (hp.getD (2 * i + 1 + 1) []) < f (hp.getD (2 * i + 1) [])) : kid f nn hp i = 2 * i + 1 := by
  unfold kid; rw [if_neg (by omega)]

/-- What holds at the head of each round of down. -/
def DownRel (B n : Nat) (w : World) (db mb : Nat) (dv : Value) (E : List UInt8 → Option Ent) (L nn : Nat) (R : List (List UInt8) × Nat) (i1 m : Nat) (hp1 : List (List UInt8)) (wr : World) : Prop :=
  hp1.length = L ∧ DBI B n wr db mb dv E hp1 ∧ Fr B w wr ∧ downL (dlOf E) nn m hp1 i1 = R

theorem DownRel.drewN {L nn : Nat} {R : List (List UInt8) × Nat} {i1 m : Nat} {hp1 : List (List UInt8)} {wr : World} (h : DownRel B n w db mb dv E L nn R i1 m hp1 wr) (nd : Nat) : DownRel B n w db mb dv E L nn R i1 m hp1 (wr.drewN nd) :=
  ⟨h.1, h.2.1.drewN nd, h.2.2.1.trans (Fr.drewN B wr nd), h.2.2.2⟩

set_option maxHeartbeats 2000000 in
theorem down_any (h : DBI B n w db mb dv E hp) {i nn : Nat} (hi : i < nn) (hn : nn ≤ hp.length) (hL : hp.length ≤ 1048576) :
    Calls Try.prog 51 #[.iface 107 (.pointer (some ⟨db, 1, none⟩)), .int .i64 i, .int .i64 nn] w fun r w' => r = .returned (.bool (decide (i < (downL (dlOf E) nn nn hp i).2))) ∧ DBI B n w' db mb dv E (downL (dlOf E) nn nn hp i).1 ∧ Fr B w w' := by
  obtain ⟨p, cap, rfl⟩ := h.dvShape
  have hm1 := fun X hX => m_less X db 1 p hp.length cap hX
  have hm2 := fun X hX => m_swap X db 1 p hp.length cap hX
  obtain ⟨R, hR⟩ : ∃ R, downL (dlOf E) nn nn hp i = R := ⟨_, rfl⟩
  rw [hR]
  generalize hLL : hp.length = L at h hm1 hm2 hn hL
  have H0 : Hid (DownRel B n w db mb (.slice p L cap) E L nn R i nn hp w) := ⟨hLL, h, Fr.refl _ _, hR⟩
  clear hLL h hR
  go_enter Try.func51, Try.ntmps51
  go_wp2_with fail
  go_loopw [7] (fun iv wr => ∃ (i1 m : Nat) (hp1 : List (List UInt8)), iv = .int .i64 i1 ∧ i1 < nn ∧ nn ≤ i1 + m ∧ Hid (DownRel B n w db mb (.slice p L cap) E L nn R i1 m hp1 wr)) (fun iv _ => nn - (intOf iv).toNat)
  case atStart => exact ⟨i, nn, hp, rfl, hi, by omega, H0⟩
  case round =>
    obtain ⟨i1, m, hp1, rfl, hi1, hm, hD⟩ := hrel
    have c1 := hD.out.2.1.cell1
    by_cases hbig : nn ≤ 2 * i1 + 1
    · go_wp2_with fail
      go_ret
      have e1 : (hp1, i1) = R := by rw [← hD.out.2.2.2, downL_stop _ _ _ _ _ (.inl hbig)]
      rw [← e1]
      exact ⟨by simp, hD.out.2.1, hD.out.2.2.1⟩
    · obtain ⟨m', rfl⟩ : ∃ m', m = m' + 1 := ⟨m - 1, by omega⟩
      by_cases htwo : 2 * i1 + 1 + 1 < nn
      · go_wp2_with fail
        refine (less_at (i := 2 * i1 + 1 + 1) (j := 2 * i1 + 1) hD.out.2.1 (by omega) (by omega) (by rw [hD.out.1]; omega) (by rw [hD.out.1]; omega)).mono ?_
        rintro e _ ⟨rfl, n1, rfl⟩
        have hDX : Hid (DownRel B n w db mb (.slice p L cap) E L nn R i1 (m' + 1) hp1 (wr.drewN n1)) := hD.out.drewN n1
        have cX := hDX.out.2.1.cell1
        generalize wr.drewN n1 = X at hDX cX ⊢
        by_cases hl : dlOf E (hp1.getD (2 * i1 + 1 + 1) []) < dlOf E (hp1.getD (2 * i1 + 1) [])
        · rw [decide_eq_true hl]
          have hkid : Hid (kid (dlOf E) nn hp1 i1 = 2 * i1 + 1 + 1) := kid_two _ _ _ _ htwo hl
          clear hl
          go_wp2_with fail
          refine (less_at (i := 2 * i1 + 1 + 1) (j := i1) hDX.out.2.1 (by omega) rfl (by rw [hDX.out.1]; omega) (by rw [hDX.out.1]; omega)).mono ?_
          rintro e _ ⟨rfl, nd, rfl⟩
          have hDY : Hid (DownRel B n w db mb (.slice p L cap) E L nn R i1 (m' + 1) hp1 (X.drewN nd)) := hDX.out.drewN nd
          have cY := hDY.out.2.1.cell1
          generalize X.drewN nd = Y at hDY cY ⊢
          by_cases hlt : dlOf E (hp1.getD (2 * i1 + 1 + 1) []) < dlOf E (hp1.getD i1 [])
          · rw [decide_eq_true hlt]
            have hU' : Hid (downL (dlOf E) nn m' (swp hp1 i1 (2 * i1 + 1 + 1)) (2 * i1 + 1 + 1) = R) := by rw [Hid, ← hDX.out.2.2.2, downL_go _ _ _ _ _ (by omega) hkid.out hlt]
            clear hlt
            go_wp2_with fail
            refine (swap_at (i := i1) (j := 2 * i1 + 1 + 1) hDY.out.2.1 rfl (by omega) (by rw [hDY.out.1]; omega) (by rw [hDY.out.1]; omega) (by omega)).mono ?_
            rintro e w2 ⟨rfl, hD2, hF2⟩
            have HD2 : Hid (DownRel B n w db mb (.slice p L cap) E L nn R (2 * i1 + 1 + 1) m' (swp hp1 i1 (2 * i1 + 1 + 1)) w2) := ⟨(swp_length _ _ _).trans hDY.out.1, hD2, hDY.out.2.2.1.trans hF2, hU'.out⟩
            clear hD2 hF2
            go_wp2_with fail
            go_roundw
            case rel => exact ⟨2 * i1 + 1 + 1, m', swp hp1 i1 (2 * i1 + 1 + 1), by go_num, by omega, by omega, HD2⟩
            case measure => simp [intOf]; omega
          · rw [decide_eq_false hlt]
            have e1 : Hid ((hp1, i1) = R) := by rw [Hid, ← hDX.out.2.2.2, downL_stop _ _ _ _ _ (.inr (by rw [hkid.out]; exact hlt))]
            clear hlt
            go_wp2_with fail
            go_ret
            rw [← e1.out]
            exact ⟨by simp, hDY.out.2.1, hDY.out.2.2.1⟩
        · rw [decide_eq_false hl]
          have hkid : Hid (kid (dlOf E) nn hp1 i1 = 2 * i1 + 1) := kid_one _ _ _ _ (.inr hl)
          clear hl
          go_wp2_with fail
          refine (less_at (i := 2 * i1 + 1) (j := i1) hDX.out.2.1 (by omega) rfl (by rw [hDX.out.1]; omega) (by rw [hDX.out.1]; omega)).mono ?_
          rintro e _ ⟨rfl, nd, rfl⟩
          have hDY : Hid (DownRel B n w db mb (.slice p L cap) E L nn R i1 (m' + 1) hp1 (X.drewN nd)) := hDX.out.drewN nd
          have cY := hDY.out.2.1.cell1
          generalize X.drewN nd = Y at hDY cY ⊢
          by_cases hlt : dlOf E (hp1.getD (2 * i1 + 1) []) < dlOf E (hp1.getD i1 [])
          · rw [decide_eq_true hlt]
            have hU' : Hid (downL (dlOf E) nn m' (swp hp1 i1 (2 * i1 + 1)) (2 * i1 + 1) = R) := by rw [Hid, ← hDX.out.2.2.2, downL_go _ _ _ _ _ (by omega) hkid.out hlt]
            clear hlt
            go_wp2_with fail
            refine (swap_at (i := i1) (j := 2 * i1 + 1) hDY.out.2.1 rfl (by omega) (by rw [hDY.out.1]; omega) (by rw [hDY.out.1]; omega) (by omega)).mono ?_
            rintro e w2 ⟨rfl, hD2, hF2⟩
            have HD2 : Hid (DownRel B n w db mb (.slice p L cap) E L nn R (2 * i1 + 1) m' (swp hp1 i1 (2 * i1 + 1)) w2) := ⟨(swp_length _ _ _).trans hDY.out.1, hD2, hDY.out.2.2.1.trans hF2, hU'.out⟩
            clear hD2 hF2
            go_wp2_with fail
            go_roundw
            case rel => exact ⟨2 * i1 + 1, m', swp hp1 i1 (2 * i1 + 1), by go_num, by omega, by omega, HD2⟩
            case measure => simp [intOf]; omega
          · rw [decide_eq_false hlt]
            have e1 : Hid ((hp1, i1) = R) := by rw [Hid, ← hDX.out.2.2.2, downL_stop _ _ _ _ _ (.inr (by rw [hkid.out]; exact hlt))]
            clear hlt
            go_wp2_with fail
            go_ret
            rw [← e1.out]
            exact ⟨by simp, hDY.out.2.1, hDY.out.2.2.1⟩
      · have hkid : Hid (kid (dlOf E) nn hp1 i1 = 2 * i1 + 1) := kid_one _ _ _ _ (.inl htwo)
        go_wp2_with fail
        refine (less_at (i := 2 * i1 + 1) (j := i1) hD.out.2.1 (by omega) rfl (by rw [hD.out.1]; omega) (by rw [hD.out.1]; omega)).mono ?_
        rintro e _ ⟨rfl, nd, rfl⟩
        have hDY : Hid (DownRel B n w db mb (.slice p L cap) E L nn R i1 (m' + 1) hp1 (wr.drewN nd)) := hD.out.drewN nd
        have cY := hDY.out.2.1.cell1
        generalize wr.drewN nd = Y at hDY cY ⊢
        by_cases hlt : dlOf E (hp1.getD (2 * i1 + 1) []) < dlOf E (hp1.getD i1 [])
        · rw [decide_eq_true hlt]
          have hU' : Hid (downL (dlOf E) nn m' (swp hp1 i1 (2 * i1 + 1)) (2 * i1 + 1) = R) := by rw [Hid, ← hD.out.2.2.2, downL_go _ _ _ _ _ (by omega) hkid.out hlt]
          clear hlt
          go_wp2_with fail
          refine (swap_at (i := i1) (j := 2 * i1 + 1) hDY.out.2.1 rfl (by omega) (by rw [hDY.out.1]; omega) (by rw [hDY.out.1]; omega) (by omega)).mono ?_
          rintro e w2 ⟨rfl, hD2, hF2⟩
          have HD2 : Hid (DownRel B n w db mb (.slice p L cap) E L nn R (2 * i1 + 1) m' (swp hp1 i1 (2 * i1 + 1)) w2) := ⟨(swp_length _ _ _).trans hDY.out.1, hD2, hDY.out.2.2.1.trans hF2, hU'.out⟩
          clear hD2 hF2
          go_wp2_with fail
          go_roundw
          case rel => exact ⟨2 * i1 + 1, m', swp hp1 i1 (2 * i1 + 1), by go_num, by omega, by omega, HD2⟩
          case measure => simp [intOf]; omega
        · rw [decide_eq_false hlt]
          have e1 : Hid ((hp1, i1) = R) := by rw [Hid, ← hD.out.2.2.2, downL_stop _ _ _ _ _ (.inr (by rw [hkid.out]; exact hlt))]
          clear hlt
          go_wp2_with fail
          go_ret
          rw [← e1.out]
          exact ⟨by simp, hDY.out.2.1, hDY.out.2.2.1⟩
end
end Go.Proofs.Qxb6615097a
