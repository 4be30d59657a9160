/- buildDB: the script run on an empty database. -/
import Derived.Test.Qxb6615097aClone
import Derived.Test.Qxb6615097aSetDl
namespace Go.Proofs.Qxb6615097a
open Go.RowKit

theorem cloneOps_any {a : Option Addr} {os : List RawOp} {c : Nat} (w : World) (h : OpsArg w a os) (hS : Short os os.length) (hn : os.length ≤ 1048576) (h0 : a = none → os = [] ∧ c = 0) :
    Calls Try.prog 19 #[.slice a os.length c] w fun e w' => ∃ v, e = .returned v ∧ OpsCl w' w'.heap.size v (os.map RawOp.cop) ∧ Below w.heap.size w w' := by
  cases a with
  | none =>
    obtain ⟨rfl, rfl⟩ := h0 rfl
    refine (cloneOps_nil w).mono ?_
    rintro e w' ⟨rfl, rfl⟩
    exact ⟨_, rfl, .inl ⟨rfl, rfl⟩, Below.refl _ _⟩
  | some x => exact cloneOps_some x os c w h hS hn

/-- What the script says of each key: the value and the deadline of the last Set on it. -/
def stepM (M : List UInt8 → Option (Option (List UInt8) × Int)) (o : COp) : List UInt8 → Option (Option (List UInt8) × Int) := fun k => if k = bts o.k then some (o.v, o.d) else M k
def runM (os : List COp) : List UInt8 → Option (Option (List UInt8) × Int) := os.foldl stepM (fun _ => none)

theorem runM_snoc (os : List COp) (k : Nat) (h : k < os.length) : runM (os.take (k + 1)) = stepM (runM (os.take k)) os[k] := by
  unfold runM
  rw [List.take_succ_eq_append_getElem h, List.foldl_append]
  rfl

/-- The database holds what M says, all of it strings; its heap is in order. -/
def Holds (B n : Nat) (w : World) (db : Nat) (M : List UInt8 → Option (Option (List UInt8) × Int)) : Prop :=
  ∃ mb dv E hp, DBI B n w db mb dv E hp ∧ Inv E hp ∧ hp.length ≤ n ∧ (∀ k e, E k = some e → e.set = false) ∧ ∀ k, (E k).map (fun e => (e.val, e.dl)) = M k

theorem holds_step {B n : Nat} {w : World} {db mb : Nat} {dv : Value} {E : List UInt8 → Option Ent} {hp : List (List UInt8)} {M : List UInt8 → Option (Option (List UInt8) × Int)} {o : COp} {b : Nat}
    (h : DBI B (n + 1) w db mb dv (upd E (bts o.k) ⟨b, o.v, false, o.d⟩) hp) (hI : Inv (upd E (bts o.k) ⟨b, o.v, false, o.d⟩) hp) (hl : hp.length ≤ n + 1) (hs : ∀ k e, E k = some e → e.set = false) (hM : ∀ k, (E k).map (fun e => (e.val, e.dl)) = M k) :
    Holds B (n + 1) w db (stepM M o) := by
  refine ⟨mb, dv, _, hp, h, hI, hl, ?_, ?_⟩
  · intro k e hE
    by_cases hk : k = bts o.k
    · rw [hk, upd_same] at hE; cases hE; rfl
    · rw [upd_other _ _ hk] at hE; exact hs k e hE
  · intro k
    by_cases hk : k = bts o.k
    · rw [hk, upd_same, stepM, if_pos rfl]; rfl
    · rw [upd_other _ _ hk, stepM, if_neg hk]; exact hM k

theorem Holds.drewN {B n : Nat} {w : World} {db : Nat} {M : List UInt8 → Option (Option (List UInt8) × Int)} (h : Holds B n w db M) (m : Nat) : Holds B n (w.drewN m) db M := by
  obtain ⟨mb, dv, E, hp, h1, r⟩ := h
  exact ⟨mb, dv, E, hp, h1.drewN m, r⟩
theorem Holds.later {B n : Nat} {w w' : World} {db : Nat} {M : List UInt8 → Option (Option (List UInt8) × Int)} (h : Holds B n w db M) (hb : Below w.heap.size w w') : Holds B n w' db M := by
  obtain ⟨mb, dv, E, hp, h1, r⟩ := h
  exact ⟨mb, dv, E, hp, h1.later hb, r⟩
theorem Holds.low {B n : Nat} {w : World} {db : Nat} {M : List UInt8 → Option (Option (List UInt8) × Int)} (h : Holds B n w db M) : B ≤ w.heap.size := by
  obtain ⟨mb, dv, E, hp, h1, r⟩ := h
  exact Nat.le_trans h1.low (Nat.le_of_lt (lt_of_some h1.head))

/-- Set, on a database that holds M. -/
theorem set_holds {B n : Nat} {w : World} {db : Nat} {M : List UInt8 → Option (Option (List UInt8) × Int)} (h : Holds B n w db M) (hnn : n < 1048576) {kv vv : Value} {o : COp} (hk : BV w kv o.k) (hv : BV w vv o.v) :
    Calls Try.prog 12 #[.pointer (some ⟨db, 0, none⟩), kv, vv, .int .i64 o.d] w fun e w' => e = .returned (.tuple #[]) ∧ Holds B (n + 1) w' db (stepM M o) ∧ Fr B w w' := by
  obtain ⟨mb, dv, E, hp, h1, h2, h3, h4, h5⟩ := h
  refine (set_full h1 h2 hnn (by omega) hk hv o.d).mono ?_
  rintro e w' ⟨rfl, b, dv', hp', g1, g2, g3, g4⟩
  exact ⟨rfl, holds_step g1 g2 (by omega) h4 h5, g4⟩

theorem fr_after {B : Nat} {wr X X' : World} (h : Fr B wr X) (hB : B ≤ wr.heap.size) (hb : Below X.heap.size X X') : Fr B wr X' := h.trans ⟨hb.mono (Nat.le_trans hB h.1.size), Keep5.of_below hb⟩

/-- The cells of one Set of the copied script. -/
theorem OpsCl.at {w : World} {B : Nat} {v : Value} {os : List COp} (h : OpsCl w B v os) {k : Nat} (hk : k < os.length) :
    ∃ cb kv vv, v = .slice (some ⟨cb, 0, none⟩) os.length os.length ∧ cb < B ∧ w.cell? ⟨cb, k * 3, none⟩ = some kv ∧ w.cell? ⟨cb, k * 3 + 1, none⟩ = some vv ∧ w.cell? ⟨cb, k * 3 + 2, none⟩ = some (.int .i64 os[k].d) ∧ BV w kv os[k].k ∧ BV w vv os[k].v := by
  rcases h with ⟨_, rfl⟩ | ⟨cb, cs, rfl, hcb, hcs, hC⟩
  · simp at hk
  · obtain ⟨kv, vv, a1, a2, a3, a4, a5⟩ := hC k hk hk
    exact ⟨cb, kv, vv, rfl, hcb, by simp [World.cell?, hcs, a1], by simp [World.cell?, hcs, a2], by simp [World.cell?, hcs, a3], a4, a5⟩

theorem OpsCl.shape {w : World} {B : Nat} {v : Value} {os : List COp} (h : OpsCl w B v os) : ∃ a, v = .slice a os.length os.length := by
  rcases h with ⟨h, rfl⟩ | ⟨cb, cs, rfl, _⟩
  · exact ⟨none, h⟩
  · exact ⟨_, rfl⟩

theorem OpsCl.fr {w w' : World} {B B' : Nat} {v : Value} {os : List COp} (h : OpsCl w B v os) (hB : B ≤ B') (hf : Fr B' w w') : OpsCl w' B' v os := by
  rcases h with h | ⟨cb, cs, rfl, hcb, hcs, hC⟩
  · exact .inl h
  · exact .inr ⟨cb, cs, rfl, by omega, (hf.1.block cb (by omega)).trans hcs, hC.keep hf.2⟩

set_option maxHeartbeats 2000000 in
theorem buildDB_any {v : Value} {os : List COp} (w : World) (h : OpsCl w w.heap.size v os) (hn : os.length ≤ 1000000) :
    Calls Try.prog 20 #[v] w fun e w' => ∃ db, e = .returned (.pointer (some ⟨db, 0, none⟩)) ∧ Holds w.heap.size os.length w' db (runM os) ∧ Fr w.heap.size w w' := by
  obtain ⟨a, rfl⟩ := h.shape
  have HO := hide h
  clear h
  go_enter Try.func20, Try.ntmps20
  go_wp2_with fail
  refine (newDB_any w).mono ?_
  rintro e w1 ⟨rfl, hD, hb⟩
  have H0 : Hid (Holds w.heap.size 0 w1 (w.heap.size + 1) (runM (os.take 0)) ∧ Fr w.heap.size w w1) :=
    ⟨⟨_, _, _, _, hD, ⟨fun k e hE => (by cases hE), fun s h1 h2 => by simp at h2⟩, Nat.le_refl _, fun k e hE => (by cases hE), fun k => rfl⟩, hb, Keep5.of_below hb⟩
  clear hD hb
  generalize hdb : w.heap.size + 1 = db at H0 ⊢
  clear hdb
  generalize hBB : w.heap.size = B at H0 HO
  have HBB := hide hBB
  clear hBB
  go_wp2_with fail
  go_loopw [4] (fun i wr => ∃ k : Nat, k ≤ os.length ∧ i = .int .i64 k ∧ Hid (Holds B k wr db (runM (os.take k)) ∧ Fr B w wr)) (fun i _ => os.length - (intOf i).toNat)
  case atStart => exact ⟨0, Nat.zero_le _, rfl, H0⟩
  case round =>
    obtain ⟨k, hk, rfl, hR⟩ := hrel
    by_cases hlt : k < os.length
    · obtain ⟨cb, kv, vv, hv, hcb, q0, q1, q2, r0, r1⟩ := OpsCl.at (OpsCl.fr HO.out (Nat.le_refl _) hR.out.2) hlt
      obtain rfl : a = some ⟨cb, 0, none⟩ := by simpa using hv
      clear hv
      have HM : Hid (runM (os.take (k + 1)) = stepM (runM (os.take k)) os[k]) := runM_snoc os k hlt
      have R0 := hide r0
      have R1 := hide r1
      generalize os[k] = o at q2 R0 R1 HM
      have HSof : Hid (∀ X, Fr B wr X → X.cell? ⟨cb, k * 3, none⟩ = some kv ∧ X.cell? ⟨cb, k * 3 + 1, none⟩ = some vv ∧ X.cell? ⟨cb, k * 3 + 2, none⟩ = some (.int .i64 o.d) ∧ Fr B wr X) :=
        fun X hX => ⟨(hX.1.cell (by exact hcb)).trans q0, (hX.1.cell (by exact hcb)).trans q1, (hX.1.cell (by exact hcb)).trans q2, hX⟩
      have hBs : B ≤ wr.heap.size := hR.out.1.low
      have HBs := hide hBs
      have i1 : (0 : Int) ≤ (k : Int) := by omega
      have i2 : (k : Int) < (os.length : Int) := by omega
      clear q0 q1 q2 r0 r1 hBs
      go_wp2_with fail
      go_region_held3 (fun X => X.cell? ⟨cb, k * 3, none⟩ = some kv ∧ X.cell? ⟨cb, k * 3 + 1, none⟩ = some vv ∧ X.cell? ⟨cb, k * 3 + 2, none⟩ = some (.int .i64 o.d) ∧ Fr B wr X)
        (first
          | exact HSof.out _ (Fr.drewN B wr 1)
          | (go_split_ands; exact HSof.out _ (Fr.trans (by assumption) hf3))
          | (go_split_ands; exact HSof.out _ (fr_after (by assumption) HBs.out hb)))
        (first
          | (go_at_call_of 10 kv; go_split_ands; refine (clone_bv _ (R0.out.keep (Fr.drewN B wr 1).2)).mono ?_; rintro e X1 ⟨kv', rfl, hv1, hb⟩; have D1 := hide ((hR.out.1.drewN 1).later hb); have V1 := hide hv1; have F1 := hide (fr_after (Fr.drewN B wr 1) HBs.out hb))
          | (go_at_call_of 10 vv; go_split_ands; refine (clone_bv _ (R1.out.keep F1.out.2)).mono ?_; rintro e X2 ⟨vv', rfl, hv2, hb⟩; have D2 := hide (D1.out.later hb); have V2 := hide (And.intro (V1.out.keep (Keep5.of_below hb)) hv2); have F2 := hide (fr_after F1.out HBs.out hb))
          | (go_at_call 12; go_split_ands; refine (set_holds D2.out (by omega) V2.out.1 V2.out.2).mono ?_; rintro e X3 ⟨rfl, hd3, hf3⟩; have D3 := hide hd3; have F3 := hide (F2.out.trans hf3)))
      have HN : Hid (Holds B (k + 1) X3 db (runM (os.take (k + 1))) ∧ Fr B w X3) := by rw [HM.out]; exact ⟨D3.out, hR.out.2.trans F3.out⟩
      go_wp2
      go_roundw
      case rel => exact ⟨k + 1, by omega, by go_num, HN⟩
      case measure => simp [intOf]; omega
    · have hkk : k = os.length := by omega
      have HKK := hide hkk
      clear hkk
      go_wp2
      go_ret
      rw [HBB.out]
      refine ⟨db, rfl, ?_, hR.out.2⟩
      have := hR.out.1
      rw [HKK.out, List.take_length] at this
      exact this

/-- The index of the last Set on the key among the first n, or -1. -/
def lastN (os : List COp) (key : List UInt8) : Nat → Int
  | 0 => -1
  | n + 1 => if (os[n]?).map (fun o => bts o.k) = some key then (n : Int) else lastN os key n

theorem lastN_bounds (os : List COp) (key : List UInt8) : ∀ n, -1 ≤ lastN os key n ∧ lastN os key n < n
  | 0 => by simp [lastN]
  | n + 1 => by
    have := lastN_bounds os key n
    unfold lastN
    split <;> omega

theorem lastN_run (os : List COp) (key : List UInt8) : ∀ n, n ≤ os.length → (lastN os key n = -1 ∧ runM (os.take n) key = none) ∨ ∃ i o, lastN os key n = (i : Nat) ∧ os[i]? = some o ∧ bts o.k = key ∧ runM (os.take n) key = some (o.v, o.d)
  | 0, _ => .inl ⟨rfl, rfl⟩
  | n + 1, h => by
    have hlt : n < os.length := by omega
    rw [runM_snoc os n hlt]
    have hn : os[n]? = some os[n] := List.getElem?_eq_getElem hlt
    unfold lastN stepM
    rw [hn]
    by_cases hk : bts os[n].k = key
    · refine .inr ⟨n, os[n], by simp [hk], hn, hk, by simp [hk]⟩
    · have e1 : ¬ (Option.map (fun o => bts o.k) (some os[n]) = some key) := by simpa using hk
      rw [if_neg e1, if_neg (Ne.symm hk)]
      exact lastN_run os key n (by omega)

set_option maxHeartbeats 1000000 in
theorem lastOp_any {v : Value} {os : List COp} {B : Nat} (w : World) (h : OpsCl w B v os) (hn : os.length ≤ 1048576) {kv : Value} {l : Option (List UInt8)} (hk : BV w kv l) :
    Calls Try.prog 40 #[v, kv] w fun e w' => e = .returned (.int .i64 (lastN os (bts l) os.length)) ∧ ∃ m, w' = w.drewN m := by
  obtain ⟨a, rfl⟩ := h.shape
  have HO := hide h
  have HK := hide hk
  clear h hk
  go_enter Try.func40, Try.ntmps40
  go_wp2_with fail
  go_loopw [5] (fun i wr => ∃ k : Nat, k ≤ os.length ∧ i = .int .i64 ((k : Int) - 1) ∧ Hid (lastN os (bts l) k = lastN os (bts l) os.length) ∧ ∃ m, wr = w.drewN m) (fun i _ => (intOf i + 1).toNat)
  case atStart => exact ⟨os.length, Nat.le_refl _, rfl, rfl, 0, rfl⟩
  case round =>
    obtain ⟨k, hk, rfl, hE, m, rfl⟩ := hrel
    cases k with
    | zero =>
      go_wp2_with fail
      go_ret
      exact ⟨by rw [← hE.out]; rfl, _, rfl⟩
    | succ q =>
      have hq : q < os.length := by omega
      obtain ⟨cb, kv', vv', hv, hcb, q0, q1, q2, r0, r1⟩ := OpsCl.at HO.out hq
      obtain rfl : a = some ⟨cb, 0, none⟩ := by simpa using hv
      clear hv q1 q2 r1
      have R0 := hide r0
      have e1 : ((q + 1 : Nat) : Int) - 1 = (q : Int) := by omega
      have hn' : os[q]? = some os[q] := List.getElem?_eq_getElem hq
      have HNX := hide hn'
      generalize os[q] = o at R0 HNX
      clear r0 hn'
      rw [e1]
      clear e1
      go_wp2_with fail
      refine (bytesEq_bv _ (show BV (w.drewN m) kv' o.k from R0.out) HK.out).mono ?_
      rintro e _ ⟨rfl, n1, rfl⟩
      by_cases hx : bts o.k = bts l
      · rw [decide_eq_true hx]
        have hL : Hid (lastN os (bts l) os.length = (q : Int)) := by rw [Hid, ← hE.out, lastN, HNX.out, if_pos (by simpa using hx)]
        clear hx
        go_wp2_with fail
        go_ret
        exact ⟨by rw [hL.out]; rfl, _, rfl⟩
      · rw [decide_eq_false hx]
        have hL : Hid (lastN os (bts l) q = lastN os (bts l) os.length) := by rw [Hid, ← hE.out, lastN, HNX.out, if_neg (by simpa using hx)]
        clear hx
        go_wp2_with fail
        go_roundw
        case rel => exact ⟨q, by omega, by go_num, hL, _, by first | rfl | exact World.drewN_drewN _ _ _⟩
        case measure => simp [intOf]
end Go.Proofs.Qxb6615097a
