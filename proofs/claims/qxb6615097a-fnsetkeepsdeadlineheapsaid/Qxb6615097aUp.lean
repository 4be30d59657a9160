/- container/heap: up, down, Fix, Remove, Push, over the deadline heap. -/
import Derived.Test.Qxb6615097aPop
namespace Go.Proofs.Qxb6615097a
open Go.RowKit

section
variable {B n : Nat} {w w' : World} {db mb : Nat} {dv : Value} {E : List UInt8 → Option Ent} {hp : List (List UInt8)}

theorem less_at (h : DBI B n w db mb dv E hp) {i j : Nat} {x y : Int} (hx : x = i) (hy : y = j) (hi : i < hp.length) (hj : j < hp.length) :
    Calls Try.prog 77 #[dv, .int .i64 x, .int .i64 y] w fun e w' => e = .returned (.bool (decide (dlOf E (hp.getD i []) < dlOf E (hp.getD j [])))) ∧ ∃ m, w' = w.drewN m := by
  subst hx hy
  exact less_any h hi hj
theorem swap_at (h : DBI B n w db mb dv E hp) {i j : Nat} {x y : Int} (hx : x = i) (hy : y = j) (hi : i < hp.length) (hj : j < hp.length) (hne : i ≠ j) :
    Calls Try.prog 78 #[dv, .int .i64 x, .int .i64 y] w fun e w' => e = .returned (.tuple #[]) ∧ DBI B n w' db mb dv E (swp hp i j) ∧ Fr B w w' := by
  subst hx hy
  exact swap_any h hi hj hne

theorem upL_stop (f : List UInt8 → Int) (m q : Nat) (hp : List (List UInt8)) (h : ¬ f (hp.getD (q + 1) []) < f (hp.getD (q / 2) [])) : upL f m hp (q + 1) = hp := by
  cases m with
  | zero => rfl
  | succ m => rw [upL, if_pos (.inr (by simpa using h))]
theorem upL_go (f : List UInt8 → Int) (m q : Nat) (hp : List (List UInt8)) (h : f (hp.getD (q + 1) []) < f (hp.getD (q / 2) [])) : upL f (m + 1) hp (q + 1) = upL f m (swp hp (q / 2) (q + 1)) (q / 2) := by
  rw [upL, if_neg (by simp only [Nat.add_sub_cancel]; omega)]
  simp only [Nat.add_sub_cancel]
theorem upL_zero (f : List UInt8 → Int) (m : Nat) (hp : List (List UInt8)) : upL f m hp 0 = hp := by
  cases m with
  | zero => rfl
  | succ m => rw [upL, if_pos (.inl rfl)]

set_option maxHeartbeats 1000000 in
theorem up_any (h : DBI B n w db mb dv E hp) {j : Nat} (hj : j < hp.length) (hL : hp.length ≤ 1048576) :
    Calls Try.prog 52 #[.iface 107 (.pointer (some ⟨db, 1, none⟩)), .int .i64 j] w fun r w' => r = .returned (.tuple #[]) ∧ DBI B n w' db mb dv E (upL (dlOf E) j hp j) ∧ Fr B w w' := by
  obtain ⟨p, cap, rfl⟩ := h.dvShape
  have hm1 := fun X hX => m_less X db 1 p hp.length cap hX
  have hm2 := fun X hX => m_swap X db 1 p hp.length cap hX
  generalize hLL : hp.length = L at h hm1 hm2 hj hL
  have HLL := hide hLL
  clear hLL
  go_enter Try.func52, Try.ntmps52
  go_wp2_with fail
  go_loopw [1] (fun jv wr => ∃ (j1 m : Nat) (hp1 : List (List UInt8)), jv = .int .i64 j1 ∧ j1 < L ∧ j1 ≤ m ∧ Hid (hp1.length = L) ∧ Hid (DBI B n wr db mb (.slice p L cap) E hp1) ∧ Hid (Fr B w wr) ∧ Hid (upL (dlOf E) m hp1 j1 = upL (dlOf E) j hp j)) (fun jv _ => (intOf jv).toNat)
  case atStart => exact ⟨j, j, hp, rfl, hj, Nat.le_refl _, HLL, h, Fr.refl _ _, rfl⟩
  case round =>
    obtain ⟨j1, m, hp1, rfl, hj1, hjm, hl1, hD, hF, hU⟩ := hrel
    have c1 := hD.out.cell1
    by_cases h0 : j1 = 0
    · subst h0
      go_wp2_with fail
      go_end0
      rw [← hU.out, upL_zero]
      exact ⟨rfl, hD.out, hF.out⟩
    · obtain ⟨q, rfl⟩ : ∃ q, j1 = q + 1 := ⟨j1 - 1, by omega⟩
      clear h0
      go_wp2_with fail
      refine (less_at (i := q + 1) (j := q / 2) hD.out (by omega) (by omega) (by rw [hl1.out]; omega) (by rw [hl1.out]; omega)).mono ?_
      rintro e _ ⟨rfl, nd, rfl⟩
      have c1' : (wr.drewN nd).cell? ⟨db, 1, none⟩ = some (.slice p L cap) := c1
      by_cases hlt : dlOf E (hp1.getD (q + 1) []) < dlOf E (hp1.getD (q / 2) [])
      · rw [decide_eq_true hlt]
        obtain ⟨m', rfl⟩ : ∃ m', m = m' + 1 := ⟨m - 1, by omega⟩
        have hU' : Hid (upL (dlOf E) m' (swp hp1 (q / 2) (q + 1)) (q / 2) = upL (dlOf E) j hp j) := by rw [Hid, ← hU.out, upL_go _ _ _ _ hlt]
        clear hlt
        go_wp2_with fail
        refine (swap_at (i := q / 2) (j := q + 1) (hD.out.drewN nd) (by omega) (by omega) (by rw [hl1.out]; omega) (by rw [hl1.out]; omega) (by omega)).mono ?_
        rintro e w2 ⟨rfl, hD2, hF2⟩
        have HD2 := hide hD2
        have HF2 : Hid (Fr B w w2) := (hF.out.trans (Fr.drewN B wr nd)).trans hF2
        clear hD2 hF2
        go_wp2_with fail
        go_roundw
        case rel => exact ⟨q / 2, m', swp hp1 (q / 2) (q + 1), by go_num, by omega, by omega, (swp_length _ _ _).trans hl1.out, HD2, HF2, hU'⟩
        case measure => simp [intOf]; omega
      · rw [decide_eq_false hlt]
        have hU' : Hid (hp1 = upL (dlOf E) j hp j) := by rw [Hid, ← hU.out, upL_stop _ _ _ _ hlt]
        clear hlt
        go_wp2_with fail
        go_end0
        rw [← hU'.out]
        exact ⟨rfl, hD.out.drewN nd, hF.out.trans (Fr.drewN B wr nd)⟩
end
end Go.Proofs.Qxb6615097a
