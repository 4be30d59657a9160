/- isLast, lastOpStr, and the readers of the deadline heap. -/
import Derived.Test.Qxb6615097aLast
import Derived.Test.Qxb6615097aSok
namespace Go.Proofs.Qxb6615097a
open Go.RowKit

set_option maxHeartbeats 1000000 in
theorem isLast_any {v : Value} {os : List COp} {B : Nat} (w : World) (h : OpsCl w B v os) (hn : os.length ≤ 1048576) {i : Nat} {o : COp} (hi : os[i]? = some o) :
    Calls Try.prog 21 #[v, .int .i64 i] w fun e w' => e = .returned (.bool (noneFrom os (bts o.k) (i + 1))) ∧ ∃ m, w' = w.drewN m := by
  have hlt0 : i < os.length := (List.getElem?_eq_some_iff.1 hi).1
  obtain ⟨cb, kv, vv, hv, hcb, p0, p1, p2, s0, s1⟩ := OpsCl.at h hlt0
  subst hv
  rw [(List.getElem?_eq_some_iff.1 hi).2] at s0
  have HO := hide h
  have HK := hide s0
  clear h s0 s1 p1 p2 hi hcb
  go_enter Try.func21, Try.ntmps21
  go_wp2_with fail
  go_loopw [5] (fun j wr => ∃ k : Nat, i + 1 ≤ k ∧ k ≤ os.length ∧ j = .int .i64 k ∧ Hid (noneFrom os (bts o.k) k = noneFrom os (bts o.k) (i + 1)) ∧ Hid (∃ m, wr = w.drewN m)) (fun j _ => os.length - (intOf j).toNat)
  case atStart => exact ⟨i + 1, Nat.le_refl _, by omega, by go_num, rfl, ⟨0, rfl⟩⟩
  case round =>
    obtain ⟨k, hik, hk, rfl, hE, hm⟩ := hrel
    by_cases hlt : k < os.length
    · obtain ⟨cb', kv', vv', hv, hcb, q0, q1, q2, r0, r1⟩ := OpsCl.at HO.out hlt
      obtain rfl : cb = cb' := by simpa using hv
      clear hv q1 q2 r1 hcb
      have R0 := hide r0
      have HNX := hide (noneFrom_step os (bts o.k) k hlt)
      clear r0
      generalize os[k] = o' at R0 HNX
      have RW : Hid (∀ n, BV (wr.drewN n) kv' o'.k ∧ BV (wr.drewN n) kv o.k) := by
        obtain ⟨m, rfl⟩ := hm.out
        exact fun n => ⟨R0.out, HK.out⟩
      have q0' : wr.cell? ⟨cb, k * 3, none⟩ = some kv' := by
        obtain ⟨m, rfl⟩ := hm.out
        exact q0
      have p0' : wr.cell? ⟨cb, i * 3, none⟩ = some kv := by
        obtain ⟨m, rfl⟩ := hm.out
        exact p0
      have HM : Hid (∀ n, ∃ m, wr.drewN n = w.drewN m) := by
        obtain ⟨m, rfl⟩ := hm.out
        exact fun n => ⟨m + n, World.drewN_drewN _ _ _⟩
      clear q0 hm
      have i1 : (0 : Int) ≤ (k : Int) := by omega
      have i2 : (k : Int) < (os.length : Int) := by omega
      have i3 : (0 : Int) ≤ (i : Int) := by omega
      have i4 : (i : Int) < (os.length : Int) := by omega
      go_wp2_with fail
      go_quiet ((go_at_call 9; exact Calls.quiet_of (bytesEq_bv _ (RW.out _).1 (RW.out _).2)))
      by_cases hx : bts o'.k = bts o.k
      · rw [decide_eq_true hx] at *
        have hL : Hid (noneFrom os (bts o.k) (i + 1) = false) := by rw [Hid, ← hE.out, HNX.out, hx]; simp
        clear hx
        go_wp2_with fail
        go_ret
        exact ⟨by rw [hL.out]; rfl, HM.out _⟩
      · rw [decide_eq_false hx] at *
        have hL : Hid (noneFrom os (bts o.k) (k + 1) = noneFrom os (bts o.k) (i + 1)) := by rw [Hid, ← hE.out, HNX.out]; simp [hx]
        clear hx
        go_wp2_with fail
        go_roundw
        case rel => exact ⟨k + 1, by omega, by omega, by go_num, hL, HM.out _⟩
        case measure => simp [intOf]; omega
    · have hkk : k = os.length := by omega
      have HL : Hid (noneFrom os (bts o.k) (i + 1) = true) := by rw [Hid, ← hE.out]; exact noneFrom_end _ _ _ (by omega)
      clear hkk
      go_wp2_with fail
      go_ret
      exact ⟨by rw [HL.out]; rfl, hm.out⟩

theorem ba_ne {a b : ByteArray} (h : ¬ a = b) : (a.toList == b.toList) = false := by
  rw [ByteArray.toList_eq, ByteArray.toList_eq, beq_eq_false_iff_ne]
  exact fun e => h (WideShapes.bytes_inj e)

set_option maxRecDepth 20000 in
set_option maxHeartbeats 1000000 in
theorem lastOpStr_any {v : Value} {os : List COp} {B : Nat} (w : World) (h : OpsCl w B v os) (hn : os.length ≤ 1048576) (key : List UInt8) :
    Calls Try.prog 27 #[v, .string (str key)] w fun e w' => e = .returned (.int .i64 (lastN os key os.length)) ∧ w' = w := by
  obtain ⟨a, rfl⟩ := h.shape
  have HO := hide h
  clear h
  go_enter Try.func27, Try.ntmps27
  go_wp2_with fail
  go_loop [5] (fun i => ∃ k : Nat, k ≤ os.length ∧ i = .int .i64 ((k : Int) - 1) ∧ Hid (lastN os key k = lastN os key os.length)) (fun i => (intOf i + 1).toNat)
  case atStart => exact ⟨os.length, Nat.le_refl _, rfl, rfl⟩
  case round =>
    obtain ⟨k, hk, rfl, hE⟩ := hrel
    cases k with
    | zero =>
      go_wp2_with fail
      go_ret
      exact ⟨by rw [← hE.out]; rfl, rfl⟩
    | succ q =>
      have hq : q < os.length := by omega
      obtain ⟨cb, kv', vv', hv, hcb, q0, q1, q2, r0, r1⟩ := OpsCl.at HO.out hq
      obtain rfl : a = some ⟨cb, 0, none⟩ := by simpa using hv
      clear hv q1 q2 r1
      have hcv : (convert 22 9 kv').run Try.prog w = .ok (.string (str (bts os[q].k))) w := r0.conv 0
      have e1 : ((q + 1 : Nat) : Int) - 1 = (q : Int) := by omega
      have hn' : os[q]? = some os[q] := List.getElem?_eq_getElem hq
      have HNX := hide hn'
      clear r0 hn'
      generalize os[q] = o at hcv HNX
      rw [e1]
      clear e1
      have i1 : (0 : Int) ≤ (q : Int) := by omega
      have i2 : (q : Int) < (os.length : Int) := by omega
      by_cases hx : bts o.k = key
      · have hL : Hid (lastN os key os.length = (q : Int)) := by rw [Hid, ← hE.out, lastN, HNX.out, if_pos (by simpa using hx)]
        rw [hx] at hcv
        clear hx
        go_wp2_with fail
        go_ret
        exact ⟨by rw [hL.out]; rfl, rfl⟩
      · have hL : Hid (lastN os key q = lastN os key os.length) := by rw [Hid, ← hE.out, lastN, HNX.out, if_neg (by simpa using hx)]
        have hs' : ¬ (str (bts o.k) = str key) := fun h => hx (str_inj h)
        clear hx
        generalize str (bts o.k) = sa at hs' hcv
        generalize hsb : str key = sb at hs' ⊢
        clear hsb
        have hs2 := ba_ne hs'
        clear hs'
        go_wp2_with fail
        go_round
        case rel => exact ⟨q, by omega, by go_num, hL⟩
        case measure => simp [intOf]

section
variable {B n : Nat} {w : World} {db mb : Nat} {dv : Value} {E : List UInt8 → Option Ent} {hp : List (List UInt8)}

theorem dlen_any (h : DBI B n w db mb dv E hp) : Calls Try.prog 23 #[.pointer (some ⟨db, 0, none⟩)] w fun e w' => e = .returned (.int .i64 hp.length) ∧ w' = w := by
  have c1 := h.cell1
  have hv : ∃ p c, dv = .slice p hp.length c := by
    obtain ⟨_, h2⟩ := h.row
    rcases h2 with ⟨h2, h3⟩ | ⟨g, cap, cur, hv, _⟩
    · exact ⟨none, 0, by rw [h2, h3]⟩
    · exact ⟨_, _, hv⟩
  obtain ⟨p, c, rfl⟩ := hv
  clear h
  go_enter Try.func23, Try.ntmps23
  go_wp2
  go_ret
  exact ⟨rfl, rfl⟩

theorem DBI.cells (h : DBI B n w db mb dv E hp) {s : Nat} (hs : s < hp.length) :
    ∃ g cap b v c, w.cell? ⟨db, 1, none⟩ = some (.slice (some ⟨g, 0, none⟩) hp.length cap) ∧ w.cell? ⟨g, s, none⟩ = some (.pointer (some ⟨b, 0, none⟩)) ∧ w.heap[b]? = some (.cells (ecells (hp.getD s []) v c (dlOf E (hp.getD s [])) (pos hp (hp.getD s []))) 82 (0, 0)) := by
  have c1 := h.cell1
  obtain ⟨g, cap, cur, rfl, hBg, hg, hc1, hc2, hsz, ht⟩ := h.rowAt (by omega)
  obtain ⟨ki, ei, hki, hgi, hEi, ⟨vi, ci, hbi, _, _⟩, hdi⟩ := h.at hs
  refine ⟨g, cap, ei.blk, vi, ci, c1, row_cell hg ht hki hEi, ?_⟩
  rw [hgi, hdi]
  exact hbi

theorem dval_any (h : DBI B n w db mb dv E hp) {s : Nat} (hs : s < hp.length) : Calls Try.prog 24 #[.pointer (some ⟨db, 0, none⟩), .int .i64 s] w fun e w' => e = .returned (.int .i64 (dlOf E (hp.getD s []))) ∧ w' = w := by
  obtain ⟨g, cap, b, v, c, q0, q1, q2⟩ := h.cells hs
  have q3 : w.cell? ⟨b, 3, none⟩ = some (.int .i64 (dlOf E (hp.getD s []))) := by simp [World.cell?, q2, ecells]
  have i1 : (0 : Int) ≤ (s : Int) := by omega
  have i2 : (s : Int) < (hp.length : Int) := by omega
  clear q2 h
  generalize dlOf E (hp.getD s []) = x at q3 ⊢
  go_enter Try.func24, Try.ntmps24
  go_wp2
  go_ret
  exact ⟨rfl, rfl⟩

theorem didx_any (h : DBI B n w db mb dv E hp) {s : Nat} (hs : s < hp.length) : Calls Try.prog 25 #[.pointer (some ⟨db, 0, none⟩), .int .i64 s] w fun e w' => e = .returned (.int .i64 (pos hp (hp.getD s []))) ∧ w' = w := by
  obtain ⟨g, cap, b, v, c, q0, q1, q2⟩ := h.cells hs
  have q3 : w.cell? ⟨b, 4, none⟩ = some (.int .i64 (pos hp (hp.getD s []))) := by simp [World.cell?, q2, ecells]
  have i1 : (0 : Int) ≤ (s : Int) := by omega
  have i2 : (s : Int) < (hp.length : Int) := by omega
  clear q2 h
  generalize pos hp (hp.getD s []) = x at q3 ⊢
  go_enter Try.func25, Try.ntmps25
  go_wp2
  go_ret
  exact ⟨rfl, rfl⟩

theorem dkey_any (h : DBI B n w db mb dv E hp) {s : Nat} (hs : s < hp.length) : Calls Try.prog 26 #[.pointer (some ⟨db, 0, none⟩), .int .i64 s] w fun e w' => e = .returned (.string (str (hp.getD s []))) ∧ w' = w := by
  obtain ⟨g, cap, b, v, c, q0, q1, q2⟩ := h.cells hs
  have q3 : w.cell? ⟨b, 0, none⟩ = some (.string (str (hp.getD s []))) := by simp [World.cell?, q2, ecells]
  have i1 : (0 : Int) ≤ (s : Int) := by omega
  have i2 : (s : Int) < (hp.length : Int) := by omega
  clear q2 h
  generalize str (hp.getD s []) = x at q3 ⊢
  go_enter Try.func26, Try.ntmps26
  go_wp2
  go_ret
  exact ⟨rfl, rfl⟩
end
end Go.Proofs.Qxb6615097a
