/- container/heap: Fix, Remove, Push, over the deadline heap. -/
import Derived.Test.Qxb6615097aDown
namespace Go.Proofs.Qxb6615097a
open Go.RowKit

section
variable {B n : Nat} {w w' : World} {db mb : Nat} {dv : Value} {E : List UInt8 → Option Ent} {hp : List (List UInt8)}

set_option maxHeartbeats 1000000 in
theorem fix_any (h : DBI B n w db mb dv E hp) {i : Nat} (hi : i < hp.length) (hL : hp.length ≤ 1048576) :
    Calls Try.prog 48 #[.iface 107 (.pointer (some ⟨db, 1, none⟩)), .int .i64 i] w fun r w' => r = .returned (.tuple #[]) ∧ DBI B n w' db mb dv E (dupL (dlOf E) hp.length hp i) ∧ Fr B w w' := by
  obtain ⟨p, cap, rfl⟩ := h.dvShape
  have hm0 := fun X hX => m_len X db 1 p hp.length cap hX
  have c1 := h.cell1
  have H := hide h
  obtain ⟨L, hLL⟩ : ∃ L, L = hp.length := ⟨_, rfl⟩
  rw [← hLL] at hm0 c1 hL hi ⊢
  have HL := hide hLL
  clear h hLL
  go_enter Try.func48, Try.ntmps48
  go_wp2_with fail
  refine (len_any _ _ _ _).mono ?_
  rintro e _ ⟨rfl, rfl⟩
  go_wp2_with fail
  refine (down_any (i := i) (nn := L) (HL.out ▸ H.out) hi (by rw [HL.out]; exact Nat.le_refl _) (by rw [← HL.out]; exact hL)).mono ?_
  rintro e w1 ⟨rfl, hD1, hF1⟩
  have hfacts := downL_facts (dlOf E) L L hp i (by rw [HL.out]; exact Nat.le_refl _) (by rw [← HL.out]; exact hi)
  have hlen : (downL (dlOf E) L L hp i).1.length = L := by rw [hfacts.1.length_eq, HL.out]
  have HD1 := hide hD1
  have HF1 := hide hF1
  have HLEN := hide hlen
  clear hD1 hF1 hfacts hlen
  by_cases hlt : i < (downL (dlOf E) L L hp i).2
  · rw [decide_eq_true hlt]
    have hX : Hid (dupL (dlOf E) L hp i = (downL (dlOf E) L L hp i).1) := by rw [Hid, dupL, if_pos hlt]
    clear hlt
    go_wp2_with fail
    go_end0
    rw [hX.out]
    exact ⟨rfl, HD1.out, HF1.out⟩
  · rw [decide_eq_false hlt]
    have hX : Hid (dupL (dlOf E) L hp i = upL (dlOf E) i (downL (dlOf E) L L hp i).1 i) := by rw [Hid, dupL, if_neg hlt]
    clear hlt
    go_wp2_with fail
    refine (up_any HD1.out (j := i) (by rw [HLEN.out]; exact hi) (by rw [HLEN.out]; exact hL)).mono ?_
    rintro e w2 ⟨rfl, hD2, hF2⟩
    have HD2 := hide hD2
    have HF2 : Hid (Fr B w w2) := HF1.out.trans hF2
    clear hD2 hF2
    go_wp2_with fail
    go_end0
    rw [hX.out]
    exact ⟨rfl, HD2.out, HF2.out⟩

set_option maxHeartbeats 2000000 in
theorem remove_any (h : DBI B n w db mb dv E hp) {i : Nat} {k : List UInt8} {e : Ent} (hi : i < hp.length) (hL : hp.length ≤ 1048576) (hk : hp[i]? = some k) (hE : E k = some e) :
    Calls Try.prog 47 #[.iface 107 (.pointer (some ⟨db, 1, none⟩)), .int .i64 i] w fun r w' => r = .returned (.iface 76 (.pointer (some ⟨e.blk, 0, none⟩))) ∧ ∃ dv', DBI B n w' db mb dv' E (remL (dlOf E) hp i).dropLast ∧ Fr B w w' := by
  obtain ⟨p, cap, rfl⟩ := h.dvShape
  have hm0 := fun X hX => m_len X db 1 p hp.length cap hX
  have hm2 := fun X hX => m_swap X db 1 p hp.length cap hX
  have hm3 := m_pop
  have c1 := h.cell1
  have H := hide h
  have HK := hide hk
  have HE := hide hE
  have hR := remL_facts (dlOf E) hp i hi
  have HR := hide hR
  clear h hk hE hR
  go_enter Try.func47, Try.ntmps47
  go_wp2_with fail
  refine (len_any _ _ _ _).mono ?_
  rintro e1 _ ⟨rfl, rfl⟩
  by_cases hlast : hp.length - 1 = i
  · have hX : Hid (remL (dlOf E) hp i = hp) := by rw [Hid, remL, if_pos hlast]
    have hint : (hp.length : Int) - 1 = (i : Int) := by omega
    have HLAST := hide hlast
    clear hlast
    go_wp2_with fail
    refine (pop_any (k := k) (e := e) H.out (by omega) (by rw [HLAST.out]; exact HK.out) HE.out).mono ?_
    rintro e1 w2 ⟨rfl, dv', hD2, hF2⟩
    have HD2 := hide hD2
    have HF2 := hide hF2
    clear hD2 hF2
    go_wp2_with fail
    go_ret
    rw [hX.out]
    exact ⟨rfl, dv', HD2.out, HF2.out⟩
  · have hX : Hid (remL (dlOf E) hp i = dupL (dlOf E) (hp.length - 1) (swp hp i (hp.length - 1)) i) := by rw [Hid, remL, if_neg hlast]
    have hne : i < hp.length - 1 := by omega
    clear hlast
    go_wp2_with fail
    refine (swap_at (i := i) (j := hp.length - 1) H.out rfl (by omega) hi (by omega) (by omega)).mono ?_
    rintro e1 w1 ⟨rfl, hD1, hF1⟩
    have HD1 := hide hD1
    have HF1 := hide hF1
    have c2 := hD1.cell1
    clear hD1 hF1
    obtain ⟨hp1, hhp1⟩ : ∃ hp1, hp1 = swp hp i (hp.length - 1) := ⟨_, rfl⟩
    rw [← hhp1] at HD1 hX
    have hl1 : hp1.length = hp.length := by rw [hhp1, swp_length]
    have HL1 := hide hl1
    clear hhp1 hl1
    obtain ⟨nn, hnn⟩ : ∃ nn : Nat, nn = hp.length - 1 := ⟨_, rfl⟩
    rw [← hnn] at hX hne
    have hni : (hp.length : Int) - 1 = (nn : Int) := by omega
    have HNN := hide hnn
    clear hnn
    have hle : nn < hp.length := by have := HNN.out; omega
    go_wp2_with fail
    refine (down_any (i := i) (nn := nn) HD1.out hne (by rw [HL1.out]; omega) (by rw [HL1.out]; exact hL)).mono ?_
    rintro e1 w2 ⟨rfl, hD2, hF2⟩
    have hfacts := downL_facts (dlOf E) nn nn hp1 i (by rw [HL1.out]; omega) (by rw [HL1.out]; exact hi)
    have HD2 := hide hD2
    have HF2 : Hid (Fr B w w2) := HF1.out.trans hF2
    have HLEN : Hid ((downL (dlOf E) nn nn hp1 i).1.length = hp.length) := by rw [Hid, hfacts.1.length_eq, HL1.out]
    clear hD2 hF2 hfacts
    have c3 : w2.cell? ⟨db, 1, none⟩ = some (.slice p hp.length cap) := HD2.out.cell1
    by_cases hlt : i < (downL (dlOf E) nn nn hp1 i).2
    · rw [decide_eq_true hlt]
      have hY : Hid (remL (dlOf E) hp i = (downL (dlOf E) nn nn hp1 i).1) := by rw [Hid, hX.out, dupL, if_pos hlt]
      clear hlt
      go_wp2_with fail
      refine (pop_any (k := k) (e := e) HD2.out (by rw [HLEN.out]; omega) (by rw [← hY.out, (HR.out).1.length_eq, HR.out.2]; exact HK.out) HE.out).mono ?_
      rintro e1 w3 ⟨rfl, dv', hD3, hF3⟩
      have HD3 := hide hD3
      have HF3 : Hid (Fr B w w3) := HF2.out.trans hF3
      clear hD3 hF3
      go_wp2_with fail
      go_ret
      rw [hY.out]
      exact ⟨rfl, dv', HD3.out, HF3.out⟩
    · rw [decide_eq_false hlt]
      have hY : Hid (remL (dlOf E) hp i = upL (dlOf E) i (downL (dlOf E) nn nn hp1 i).1 i) := by rw [Hid, hX.out, dupL, if_neg hlt]
      clear hlt
      go_wp2_with fail
      refine (up_any HD2.out (j := i) (by rw [HLEN.out]; exact hi) (by rw [HLEN.out]; exact hL)).mono ?_
      rintro e1 w3 ⟨rfl, hD3, hF3⟩
      rw [← hY.out] at hD3
      have HD3 := hide hD3
      have HF3 : Hid (Fr B w w3) := HF2.out.trans hF3
      clear hD3 hF3
      have c4 : w3.cell? ⟨db, 1, none⟩ = some (.slice p hp.length cap) := HD3.out.cell1
      go_wp2_with fail
      refine (pop_any (k := k) (e := e) HD3.out (by rw [HR.out.1.length_eq]; omega) (by rw [HR.out.1.length_eq, HR.out.2]; exact HK.out) HE.out).mono ?_
      rintro e1 w4 ⟨rfl, dv', hD4, hF4⟩
      have HD4 := hide hD4
      have HF4 : Hid (Fr B w w4) := HF3.out.trans hF4
      clear hD4 hF4
      go_wp2_with fail
      go_ret
      exact ⟨rfl, dv', HD4.out, HF4.out⟩

set_option maxHeartbeats 1000000 in
theorem heapPush_any (h : DBI B n w db mb dv E hp) {k : List UInt8} {e : Ent} (hL : hp.length < 1048576) (hk : k ∉ hp) (hE : E k = some e) :
    Calls Try.prog 49 #[.iface 107 (.pointer (some ⟨db, 1, none⟩)), .iface 76 (.pointer (some ⟨e.blk, 0, none⟩))] w fun r w' => r = .returned (.tuple #[]) ∧ ∃ dv', DBI B n w' db mb dv' E (upL (dlOf E) hp.length (hp ++ [k]) hp.length) ∧ Fr B w w' := by
  have hm3 := m_push
  have H := hide h
  have HK := hide hk
  have HE := hide hE
  clear h hk hE
  go_enter Try.func49, Try.ntmps49
  go_wp2_with fail
  refine (hpush_any H.out hL HK.out HE.out).mono ?_
  rintro e1 w1 ⟨rfl, dv', hD1, hF1⟩
  obtain ⟨p, cap, rfl⟩ := hD1.dvShape
  have hm0 := fun X hX => m_len X db 1 p (hp ++ [k]).length cap hX
  have c1 := hD1.cell1
  have HD1 := hide hD1
  have HF1 := hide hF1
  clear hD1 hF1
  obtain ⟨M, hM⟩ : ∃ M, M = (hp ++ [k]).length := ⟨_, rfl⟩
  rw [← hM] at hm0 c1 HD1
  have hM' : M = hp.length + 1 := by rw [hM, List.length_append]; rfl
  have HM := hide hM
  have hm1 : (M : Int) - 1 = (hp.length : Int) := by omega
  have HM' := hide hM'
  have b1 : 1 ≤ M := by omega
  have b2 : M ≤ 1048576 := by omega
  clear hM hM'
  go_wp2_with fail
  refine (len_any _ _ _ _).mono ?_
  rintro e1 _ ⟨rfl, rfl⟩
  go_wp2_with fail
  refine (up_any HD1.out (j := hp.length) (by simp) (by rw [← HM.out]; exact b2)).mono ?_
  rintro e1 w2 ⟨rfl, hD2, hF2⟩
  have HD2 := hide hD2
  have HF2 : Hid (Fr B w w2) := HF1.out.trans hF2
  clear hD2 hF2
  go_wp2_with fail
  go_end0
  exact ⟨rfl, _, HD2.out, HF2.out⟩
end
end Go.Proofs.Qxb6615097a
