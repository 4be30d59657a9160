/- setDeadline and Set, whole. -/
import Derived.Test.Qxb6615097aFix
import Derived.Test.Qxb6615097aSet
import Derived.Deep.DrawnRows
namespace Go.Proofs.Qxb6615097a
open Go.RowKit

section
variable {B n : Nat} {w w' : World} {db mb : Nat} {dv : Value} {E : List UInt8 → Option Ent} {hp : List (List UInt8)}

/-- 'e.deadline = d', as the memory has it. -/
theorem DBI.setDl (h : DBI B n w db mb dv E hp) {k : List UInt8} {e : Ent} (hE : E k = some e) (d : Int) :
    DBI B n (w.setCell ⟨e.blk, 3, none⟩ (.int .i64 d)) db mb dv (upd E k ⟨e.blk, e.val, e.set, d⟩) hp ∧ Fr B w (w.setCell ⟨e.blk, 3, none⟩ (.int .i64 d)) := by
  obtain ⟨⟨v, c, hb, hv, hc⟩, hBe, _⟩ := h.ent _ _ hE
  obtain ⟨t1, t2⟩ := h.turn (w' := w.setCell ⟨e.blk, 3, none⟩ (.int .i64 d)) hE (fun b _ hne => heap_set_other _ _ _ _ (by exact hne)) (v := v) (c := c) (dl := d) (by rw [heap_set_at _ _ _ _ _ _ _ hb]; rfl) hv hc
  exact ⟨t1, (Below.refl B w).setCell (p := ⟨e.blk, 3, none⟩) hBe _, t2⟩

theorem DBI.dlCell (h : DBI B n w db mb dv E hp) {k : List UInt8} {e : Ent} (hE : E k = some e) : w.cell? ⟨e.blk, 3, none⟩ = some (.int .i64 e.dl) ∧ w.frozen? ⟨e.blk, 3, none⟩ = false ∧ w.cell? ⟨e.blk, 4, none⟩ = some (.int .i64 (pos hp k)) := by
  obtain ⟨⟨v, c, hb, hv, hc⟩, hBe, _⟩ := h.ent _ _ hE
  exact ⟨by simp [World.cell?, hb, ecells], by simp [World.frozen?, hb], by simp [World.cell?, hb, ecells]⟩

set_option maxHeartbeats 2000000 in
theorem sd_remove (h : DBI B n w db mb dv E hp) {i : Nat} {k : List UInt8} {e : Ent} (hi : i < hp.length) (hL : hp.length ≤ 1048576) (hk : hp[i]? = some k) (hE : E k = some e) :
    Calls Try.prog 43 #[.pointer (some ⟨db, 0, none⟩), .pointer (some ⟨e.blk, 0, none⟩), .int .i64 0] w fun r w' => r = .returned (.tuple #[]) ∧ ∃ dv', DBI B n w' db mb dv' (upd E k ⟨e.blk, e.val, e.set, 0⟩) (remL (dlOf E) hp i).dropLast ∧ Fr B w w' := by
  obtain ⟨⟨v, c, hb, _, _⟩, hBe, _⟩ := h.ent _ _ hE
  have hpos : pos hp k = (i : Int) := by rw [pos_eq, posL_at h.nodup hk]
  have q2 : w.cell? ⟨e.blk, 4, none⟩ = some (.int .i64 (i : Int)) := by rw [← hpos]; simp [World.cell?, hb, ecells]
  have i0 : (0 : Int) ≤ (i : Int) := by omega
  have HC := hide (fun m => remove_any (h.drewN m) hi hL hk hE)
  have H := hide h
  have HE := hide hE
  clear h hb hpos hk hE
  go_enter Try.func43, Try.ntmps43
  go_wp2_with fail
  go_region_with (go_at_call 47; refine (HC.out 1).mono ?_; rintro e1 w1 ⟨rfl, dv', hD1, hF1⟩)
  obtain ⟨r1, r2, _⟩ := hD1.dlCell HE.out
  have HT := hide (hD1.setDl HE.out 0)
  have HF1 := hide hF1
  clear hD1 hF1
  go_wp2_with fail
  go_end0
  exact ⟨rfl, dv', HT.out.1, ((Fr.drewN B w 1).trans HF1.out).trans HT.out.2⟩

set_option maxHeartbeats 2000000 in
theorem sd_fix (h : DBI B n w db mb dv E hp) {i : Nat} {k : List UInt8} {e : Ent} (d : Int) (hd : d ≠ 0) (hi : i < hp.length) (hL : hp.length ≤ 1048576) (hk : hp[i]? = some k) (hE : E k = some e) :
    Calls Try.prog 43 #[.pointer (some ⟨db, 0, none⟩), .pointer (some ⟨e.blk, 0, none⟩), .int .i64 d] w fun r w' => r = .returned (.tuple #[]) ∧ DBI B n w' db mb dv (upd E k ⟨e.blk, e.val, e.set, d⟩) (dupL (dlOf (upd E k ⟨e.blk, e.val, e.set, d⟩)) hp.length hp i) ∧ Fr B w w' := by
  have hpos : pos hp k = (i : Int) := by rw [pos_eq, posL_at h.nodup hk]
  obtain ⟨r1, r2, r3⟩ := h.dlCell hE
  rw [hpos] at r3
  have i0 : (0 : Int) ≤ (i : Int) := by omega
  have hd0 : (d == 0) = false := by simpa using hd
  obtain ⟨t1, t2⟩ := h.setDl hE d
  have HC := hide (fun m => fix_any (t1.drewN m) hi hL)
  have HF := hide t2
  clear h hpos hk hE t1 t2 hd
  go_enter Try.func43, Try.ntmps43
  go_wp2_with fail
  go_region_with (go_at_call 48; refine (HC.out 1).mono ?_; rintro e1 w1 ⟨rfl, hD1, hF1⟩)
  have HD1 := hide hD1
  have HF1 := hide hF1
  clear hD1 hF1
  go_wp2_with fail
  go_end0
  exact ⟨rfl, HD1.out, (HF.out.trans (Fr.drewN B _ 1)).trans HF1.out⟩

set_option maxHeartbeats 2000000 in
theorem sd_push (h : DBI B n w db mb dv E hp) {k : List UInt8} {e : Ent} (d : Int) (hd : d ≠ 0) (hL : hp.length < 1048576) (hk : k ∉ hp) (hE : E k = some e) :
    Calls Try.prog 43 #[.pointer (some ⟨db, 0, none⟩), .pointer (some ⟨e.blk, 0, none⟩), .int .i64 d] w fun r w' => r = .returned (.tuple #[]) ∧ ∃ dv', DBI B n w' db mb dv' (upd E k ⟨e.blk, e.val, e.set, d⟩) (upL (dlOf (upd E k ⟨e.blk, e.val, e.set, d⟩)) hp.length (hp ++ [k]) hp.length) ∧ Fr B w w' := by
  have hpos : pos hp k = -1 := pos_out hk
  obtain ⟨r1, r2, r3⟩ := h.dlCell hE
  rw [hpos] at r3
  have hd0 : (d == 0) = false := by simpa using hd
  have hd1 : (d != 0) = true := by simpa using hd
  obtain ⟨t1, t2⟩ := h.setDl hE d
  have HC := hide (heapPush_any t1 hL hk (upd_same _ _ _))
  have HF := hide t2
  clear h hpos hk hE t1 t2 hd
  go_enter Try.func43, Try.ntmps43
  go_wp2_with fail
  refine HC.out.mono ?_
  rintro e1 w1 ⟨rfl, dv', hD1, hF1⟩
  have HD1 := hide hD1
  have HF1 := hide hF1
  clear hD1 hF1
  go_wp2_with fail
  go_end0
  exact ⟨rfl, dv', HD1.out, HF.out.trans HF1.out⟩

/-- The deadline heap holds just the keys that have a deadline, and is in order. -/
def Inv (E : List UInt8 → Option Ent) (hp : List (List UInt8)) : Prop := (∀ k e, E k = some e → (k ∈ hp ↔ e.dl ≠ 0)) ∧ Ord (dlOf E) hp hp.length

theorem dlOf_upd {k : List UInt8} {e : Ent} (h : e.dl = dlOf E k) : dlOf (upd E k e) = dlOf E := by
  funext k'
  by_cases hk : k' = k
  · subst hk
    rw [dlOf, upd_same]
    exact h
  · rw [dlOf, dlOf, upd_other _ _ hk]

theorem dlOf_other {k k' : List UInt8} (e e' : Ent) (h : k' ≠ k) : dlOf (upd E k e) k' = dlOf (upd E k e') k' := by
  rw [dlOf, dlOf, upd_other _ _ h, upd_other _ _ h]

theorem inv_of {k : List UInt8} {e : Ent} {hp' : List (List UInt8)} (hI : Inv E hp) (hm : ∀ k', k' ≠ k → (k' ∈ hp' ↔ k' ∈ hp)) (hk : k ∈ hp' ↔ e.dl ≠ 0) (ho : Ord (dlOf (upd E k e)) hp' hp'.length) : Inv (upd E k e) hp' := by
  refine ⟨fun k' e' hE => ?_, ho⟩
  by_cases h : k' = k
  · subst h
    rw [upd_same] at hE
    cases hE
    exact hk
  · rw [upd_other _ _ h] at hE
    rw [hm k' h]
    exact hI.1 k' e' hE

theorem Ord.congr {f f' : List UInt8 → Int} {hp hp' : List (List UInt8)} {m : Nat} (h : Ord f hp m) (he : ∀ s, s < m → f' (hp'.getD s []) = f (hp.getD s [])) : Ord f' hp' m := by
  intro s h1 h2
  rw [he s h2, he _ (by omega)]
  exact h s h1 h2

theorem set_full (h : DBI B n w db mb dv E hp) (hI : Inv E hp) (hnn : n < 1048576) (hL : hp.length < 1048576) {kv vv : Value} {l vl : Option (List UInt8)} (hk : BV w kv l) (hv : BV w vv vl) (d : Int) :
    Calls Try.prog 12 #[.pointer (some ⟨db, 0, none⟩), kv, vv, .int .i64 d] w fun e w' => e = .returned (.tuple #[]) ∧ ∃ b dv' hp', DBI B (n + 1) w' db mb dv' (upd E (bts l) ⟨b, vl, false, d⟩) hp' ∧ Inv (upd E (bts l) ⟨b, vl, false, d⟩) hp' ∧ hp'.length ≤ hp.length + 1 ∧ Fr B w w' := by
  refine set_with h hnn hk hv d (fun w' => ∃ b dv' hp', DBI B (n + 1) w' db mb dv' (upd E (bts l) ⟨b, vl, false, d⟩) hp' ∧ Inv (upd E (bts l) ⟨b, vl, false, d⟩) hp' ∧ hp'.length ≤ hp.length + 1 ∧ Fr B w w') ?_
  intro w1 e1 h1 h2 h3 hD hF
  have hE1 : upd E (bts l) e1 (bts l) = some e1 := upd_same _ _ _
  have hX : upd (upd E (bts l) e1) (bts l) ⟨e1.blk, e1.val, e1.set, d⟩ = upd E (bts l) ⟨e1.blk, vl, false, d⟩ := by rw [upd_upd, h1, h2]
  have hf1 : dlOf (upd E (bts l) e1) = dlOf E := dlOf_upd h3
  generalize hkk : bts l = k at *
  have hdk : k ∈ hp ↔ dlOf E k ≠ 0 := by
    cases hEk : E k with
    | none =>
      rw [dlOf, hEk]
      constructor
      · intro hm
        have := h.mem k hm
        rw [hEk] at this
        cases this
      · intro hn; exact absurd rfl hn
    | some e0 =>
      rw [dlOf, hEk]
      exact hI.1 k e0 hEk
  by_cases hin : k ∈ hp
  · obtain ⟨i, hi⟩ := List.mem_iff_getElem?.1 hin
    have hil : i < hp.length := (List.getElem?_eq_some_iff.1 hi).1
    by_cases hd : d = 0
    · subst hd
      refine (sd_remove hD hil (by omega) hi hE1).mono ?_
      rintro r w2 ⟨rfl, dv', hD2, hF2⟩
      rw [hX] at hD2
      have hr := remL_facts (dlOf (upd E k e1)) hp i hil
      have hlast : (remL (dlOf (upd E k e1)) hp i)[(remL (dlOf (upd E k e1)) hp i).length - 1]? = some k := by rw [hr.1.length_eq, hr.2]; exact hi
      have hnd : (remL (dlOf (upd E k e1)) hp i).Nodup := hr.1.nodup_iff.2 h.nodup
      have hout := dropLast_not_mem hnd hlast
      refine ⟨rfl, e1.blk, dv', _, hD2, inv_of hI ?_ ?_ ?_, ?_, hF.trans hF2⟩
      · intro k' hne
        rw [dropLast_mem hlast hne, hr.1.mem_iff]
      · exact ⟨fun hm => absurd hm hout, fun hn => absurd rfl hn⟩
      · rw [List.length_dropLast, hr.1.length_eq]
        have ho := remL_ord (dlOf (upd E k e1)) hp i hil (by rw [hf1]; exact hI.2)
        refine ho.congr fun s hs => ?_
        have hs' : s < (remL (dlOf (upd E k e1)) hp i).length - 1 := by rw [hr.1.length_eq]; exact hs
        have e2 : (remL (dlOf (upd E k e1)) hp i).dropLast.getD s [] = (remL (dlOf (upd E k e1)) hp i).getD s [] := by
          rw [List.getD_eq_getElem?_getD, List.getD_eq_getElem?_getD, dropLast_get _ s hs']
        rw [← e2]
        refine dlOf_other _ _ ?_
        intro e3
        have hlt : s < (remL (dlOf (upd E k e1)) hp i).dropLast.length := by rw [List.length_dropLast]; exact hs'
        have hmem : (remL (dlOf (upd E k e1)) hp i).dropLast.getD s [] ∈ (remL (dlOf (upd E k e1)) hp i).dropLast := by
          rw [List.getD_eq_getElem?_getD, List.getElem?_eq_getElem hlt]
          exact List.getElem_mem hlt
        rw [e3] at hmem
        exact hout hmem
      · rw [List.length_dropLast, hr.1.length_eq]
        omega
    · refine (sd_fix hD d hd hil (by omega) hi hE1).mono ?_
      rintro r w2 ⟨rfl, hD2, hF2⟩
      rw [hX] at hD2
      have hr := dupL_facts (dlOf (upd E k ⟨e1.blk, vl, false, d⟩)) hp.length hp i (Nat.le_refl _) hil
      refine ⟨rfl, e1.blk, dv, _, hD2, inv_of hI ?_ ?_ ?_, ?_, hF.trans hF2⟩
      · intro k' _
        rw [hr.1.mem_iff]
      · rw [hr.1.mem_iff]
        exact ⟨fun _ => hd, fun _ => hin⟩
      · rw [hr.1.length_eq]
        refine fix_ord (dlOf E) _ hp i hil ?_ hI.2
        intro s hs hne
        have : hp.getD s [] ≠ k := fun e2 => by
          have h5 : hp[s]? = some k := by rw [← e2]; simp [hs]
          have h6 := posL_at h.nodup h5
          have h7 := posL_at h.nodup hi
          omega
        rw [← hf1]
        exact dlOf_other _ _ this
      · rw [hr.1.length_eq]
        omega
  · by_cases hd : d = 0
    · subst hd
      obtain ⟨⟨v, c, hb, _, _⟩, _, _⟩ := hD.ent _ _ hE1
      rw [pos_out hin] at hb
      refine (setDeadline_none (by simp [World.cell?, hb, ecells])).mono ?_
      rintro e w2 ⟨rfl, rfl⟩
      have hz : dlOf E k = 0 := by
        by_cases hz : dlOf E k = 0
        · exact hz
        · exact absurd (hdk.2 hz) hin
      have he : e1 = ⟨e1.blk, vl, false, 0⟩ := by cases e1; simp_all
      rw [he] at hD
      refine ⟨rfl, e1.blk, dv, hp, hD, inv_of hI (fun _ _ => Iff.rfl) ⟨fun hm => absurd hm hin, fun hn => absurd rfl hn⟩ ?_, by omega, hF⟩
      rw [dlOf_upd (by rw [hz])]
      exact hI.2
    · refine (sd_push hD d hd hL hin hE1).mono ?_
      rintro r w2 ⟨rfl, dv', hD2, hF2⟩
      rw [hX] at hD2
      have hr := upL_facts (dlOf (upd E k ⟨e1.blk, vl, false, d⟩)) hp.length (hp ++ [k]) hp.length (by simp)
      refine ⟨rfl, e1.blk, dv', _, hD2, inv_of hI ?_ ?_ ?_, ?_, hF.trans hF2⟩
      · intro k' hne
        rw [hr.1.mem_iff]
        simp [hne]
      · rw [hr.1.mem_iff]
        exact ⟨fun _ => hd, fun _ => by simp⟩
      · rw [hr.1.length_eq, List.length_append]
        refine push_ord (dlOf E) _ hp k ?_ hI.2
        intro s hs
        have : hp.getD s [] ≠ k := fun e2 => hin (by rw [← e2, List.getD_eq_getElem?_getD, List.getElem?_eq_getElem hs]; exact List.getElem_mem hs)
        rw [← hf1]
        exact dlOf_other _ _ this
      · rw [hr.1.length_eq, List.length_append]
        simp
end
end Go.Proofs.Qxb6615097a
