/- The walk of FnSetOverwritesOnlyItsKey. -/
import Derived.Test.Qxb6615097aGlv
namespace Go.Proofs.Qxb6615097a
open Go.RowKit

section
variable {B n : Nat} {w : World} {db : Nat} {M : List UInt8 → Option (Option (List UInt8) × Int)}

theorem dl_none (h : Holds B n w db M) {kv : Value} {l : Option (List UInt8)} (hk : BV w kv l) (hM : M (bts l) = none) :
    Calls Try.prog 22 #[.pointer (some ⟨db, 0, none⟩), kv] w fun r w' => r = .returned (.tuple #[.int .i64 0, .bool false]) ∧ ∃ m, w' = w.drewN m := by
  obtain ⟨mb, dv, E, hp, h1, _, _, h4, h5⟩ := h
  have hE : E (bts l) = none := by have := h5 (bts l); rw [hM] at this; simpa using this
  refine (deadline_any h1 hk).mono ?_
  rintro r w' ⟨rfl, hw⟩
  exact ⟨by rw [dlOf, hE]; rfl, hw⟩

theorem dl_some (h : Holds B n w db M) {kv : Value} {l : Option (List UInt8)} (hk : BV w kv l) {val : Option (List UInt8)} {d : Int} (hM : M (bts l) = some (val, d)) :
    Calls Try.prog 22 #[.pointer (some ⟨db, 0, none⟩), kv] w fun r w' => r = .returned (.tuple #[.int .i64 d, .bool true]) ∧ ∃ m, w' = w.drewN m := by
  obtain ⟨mb, dv, E, hp, h1, _, _, h4, h5⟩ := h
  have h6 := h5 (bts l)
  rw [hM] at h6
  cases hE : E (bts l) with
  | none => rw [hE] at h6; cases h6
  | some e =>
    rw [hE] at h6
    simp only [Option.map_some, Option.some.injEq, Prod.mk.injEq] at h6
    refine (deadline_any h1 hk).mono ?_
    rintro r w' ⟨rfl, hw⟩
    exact ⟨by rw [dlOf, hE, ← h6.2]; rfl, hw⟩

theorem kind_some (h : Holds B n w db M) {kv : Value} {l : Option (List UInt8)} (hk : BV w kv l) {val : Option (List UInt8)} {d : Int} (hM : M (bts l) = some (val, d)) :
    Calls Try.prog 15 #[.pointer (some ⟨db, 0, none⟩), kv] w fun r w' => r = .returned (.tuple #[.int .u8 0, .bool true]) ∧ ∃ m, w' = w.drewN m := by
  obtain ⟨mb, dv, E, hp, h1, _, _, h4, h5⟩ := h
  have h6 := h5 (bts l)
  rw [hM] at h6
  cases hE : E (bts l) with
  | none => rw [hE] at h6; cases h6
  | some e =>
    have hs := h4 _ _ hE
    refine (kind_any h1 hk).mono ?_
    rintro r w' ⟨rfl, hw⟩
    exact ⟨by rw [kindOf, hE]; simp only [hs]; rfl, hw⟩
end

/-- What the law holds in the world X: the copied script, three byte slices, the database. -/
def St7 (w X : World) (B n db : Nat) (M : List UInt8 → Option (Option (List UInt8) × Int)) (ov : Value) (cs : List COp) (v1 v2 v4 : Value) (l1 l2 l4 : Option (List UInt8)) : Prop :=
  Holds B n X db M ∧ OpsCl X B ov cs ∧ BV X v1 l1 ∧ BV X v2 l2 ∧ BV X v4 l4 ∧ Below w.heap.size w X

theorem St7.drewN {w X : World} {B n db : Nat} {M : List UInt8 → Option (Option (List UInt8) × Int)} {ov : Value} {cs : List COp} {v1 v2 v4 : Value} {l1 l2 l4 : Option (List UInt8)} (h : St7 w X B n db M ov cs v1 v2 v4 l1 l2 l4) (m : Nat) :
    St7 w (X.drewN m) B n db M ov cs v1 v2 v4 l1 l2 l4 :=
  ⟨h.1.drewN m, h.2.1.fr (Nat.le_refl _) (Fr.drewN _ _ _), h.2.2.1, h.2.2.2.1, h.2.2.2.2.1, h.2.2.2.2.2.trans ⟨rfl, rfl, rfl, Nat.le_refl _, fun _ _ => rfl⟩⟩

set_option maxRecDepth 20000 in
set_option maxHeartbeats 4000000 in
theorem sok_core (a : Option Addr) (os : List RawOp) (c : Nat) (a1 a2 a4 : Option Addr) (k1 k2 k4 : List UInt8) (c1 c2 c4 : Nat) (d : Int) (w : World) (h : OpsArg w a os) (h0 : a = none → os = [] ∧ c = 0) (r1 : CameB w a1 k1 c1) (r2 : CameB w a2 k2 c2) (r4 : CameB w a4 k4 c4)
    (hn : os.length ≤ 4096) (q1 : k1.length ≤ 65536) (q2 : k2.length ≤ 65536) (q4 : k4.length ≤ 65536) :
    Calls Try.prog 7 #[.slice a os.length c, .slice a1 k1.length c1, .slice a2 k2.length c2, .int .i64 d, .slice a4 k4.length c4] w fun e w' => e = .returned (.bool true) ∧ Below w.heap.size w w' := by
  have H41 := hide (zzb41 a os c a1 a2 a4 k1.length c1 k2.length c2 k4.length c4 d w h (by unfold maxLen; omega) r1.2.2 r2.2.2 r4.2.2)
  have R1 := hide r1
  have R2 := hide r2
  have R4 := hide r4
  have HA := hide h
  have H0 := hide h0
  clear h h0 r1 r2 r4
  go_enter Try.func7, Try.ntmps7
  go_wp2_with fail
  refine H41.out.mono ?_
  rintro e _ ⟨rfl, b, rfl, hb⟩
  cases b
  · go_wp2_with fail
    go_ret
    exact ⟨rfl, Below.refl _ _⟩
  have HS := hide (hb rfl).1
  clear hb
  go_wp2_with fail
  refine (tooBig_any a os c _ w HA.out HS.out (by omega) (by omega) (by omega)).mono ?_
  rintro e _ ⟨⟨b, rfl, _⟩, n1, rfl⟩
  cases b
  rotate_left
  · go_wp2_with fail
    go_ret
    exact ⟨rfl, (Fr.drewN _ _ _).1⟩
  have F1 : Hid (Below w.heap.size w (w.drewN n1)) := (Fr.drewN _ _ _).1
  have A1 : Hid (OpsArg (w.drewN n1) a os) := HA.out
  have B1 : Hid (CameB (w.drewN n1) a1 k1 c1 ∧ CameB (w.drewN n1) a2 k2 c2 ∧ CameB (w.drewN n1) a4 k4 c4) := ⟨R1.out, R2.out, R4.out⟩
  generalize w.drewN n1 = X1 at F1 A1 B1 ⊢
  clear R1 R2 R4 HA
  go_wp2_with fail
  refine (cloneOps_any X1 A1.out HS.out (by omega) H0.out).mono ?_
  rintro e X2 ⟨ov, rfl, ho, hb⟩
  have F2 := hide (below_after F1.out hb)
  have B2 : Hid (CameB X2 a1 k1 c1 ∧ CameB X2 a2 k2 c2 ∧ CameB X2 a4 k4 c4) := ⟨B1.out.1.later hb, B1.out.2.1.later hb, B1.out.2.2.later hb⟩
  have O2 := hide ho
  clear ho hb A1 B1 F1
  go_wp2_with fail
  refine (clone_arg X2 B2.out.1.1 (by omega) B2.out.1.2.1).mono ?_
  rintro e X3 ⟨v1, rfl, hv, hb⟩
  have F3 := hide (below_after F2.out hb)
  have B3 : Hid (CameB X3 a2 k2 c2 ∧ CameB X3 a4 k4 c4) := ⟨B2.out.2.1.later hb, B2.out.2.2.later hb⟩
  have O3 : Hid (OpsCl X3 X3.heap.size ov (os.map RawOp.cop)) := (O2.out.fr (Nat.le_refl _) ⟨hb, Keep5.of_below hb⟩).fr hb.size (Fr.refl _ _)
  have V3 := hide hv
  clear hv hb O2 B2 F2
  go_wp2_with fail
  refine (clone_arg X3 B3.out.1.1 (by omega) B3.out.1.2.1).mono ?_
  rintro e X4 ⟨v2, rfl, hv, hb⟩
  have F4 := hide (below_after F3.out hb)
  have B4 : Hid (CameB X4 a4 k4 c4) := B3.out.2.later hb
  have O4 : Hid (OpsCl X4 X4.heap.size ov (os.map RawOp.cop)) := (O3.out.fr (Nat.le_refl _) ⟨hb, Keep5.of_below hb⟩).fr hb.size (Fr.refl _ _)
  have V4 := hide (And.intro (V3.out.keep (Keep5.of_below hb)) hv)
  clear hv hb O3 B3 F3 V3
  go_wp2_with fail
  refine (clone_arg X4 B4.out.1 (by omega) B4.out.2.1).mono ?_
  rintro e X5 ⟨v4, rfl, hv, hb⟩
  have F5 := hide (below_after F4.out hb)
  have O5 : Hid (OpsCl X5 X5.heap.size ov (os.map RawOp.cop)) := (O4.out.fr (Nat.le_refl _) ⟨hb, Keep5.of_below hb⟩).fr hb.size (Fr.refl _ _)
  have V5 := hide (And.intro (V4.out.1.keep (Keep5.of_below hb)) (And.intro (V4.out.2.keep (Keep5.of_below hb)) hv))
  clear hv hb O4 B4 F4 V4
  have HL : Hid ((os.map RawOp.cop).length = os.length) := List.length_map _
  generalize (if a1.isNone then none else some k1) = l1 at V5
  generalize (if a2.isNone then none else some k2) = l2 at V5
  generalize (if a4.isNone then none else some k4) = l4 at V5
  generalize os.map RawOp.cop = cs at O5 HL
  go_wp2_with fail
  refine (buildDB_any X5 O5.out (by rw [HL.out]; omega)).mono ?_
  rintro e X6 ⟨db, rfl, hD, hf⟩
  have HB6 : Hid (w.heap.size ≤ X5.heap.size) := F5.out.size
  have S6 : Hid (St7 w X6 X5.heap.size cs.length db (runM cs) ov cs v1 v2 v4 l1 l2 l4) :=
    ⟨hD, O5.out.fr (Nat.le_refl _) hf, V5.out.1.keep hf.2, V5.out.2.1.keep hf.2, V5.out.2.2.keep hf.2, F5.out.trans (hf.1.mono F5.out.size)⟩
  clear hD hf O5 F5 V5
  generalize X5.heap.size = B at S6 HB6
  go_wp2_with fail
  refine (clone_bv X6 S6.out.2.2.1).mono ?_
  rintro e X7 ⟨u1, rfl, hv, hb⟩
  have hfx : Fr B X6 X7 := ⟨hb.mono S6.out.1.low, Keep5.of_below hb⟩
  have S7 : Hid (St7 w X7 B cs.length db (runM cs) ov cs v1 v2 v4 l1 l2 l4) :=
    ⟨S6.out.1.later hb, S6.out.2.1.fr (Nat.le_refl _) hfx, S6.out.2.2.1.keep hfx.2, S6.out.2.2.2.1.keep hfx.2, S6.out.2.2.2.2.1.keep hfx.2, below_after S6.out.2.2.2.2.2 hb⟩
  have U7 := hide hv
  clear hv hb hfx S6
  go_wp2_with fail
  refine (clone_bv X7 S7.out.2.2.2.1).mono ?_
  rintro e X8 ⟨u2, rfl, hv, hb⟩
  have hfx : Fr B X7 X8 := ⟨hb.mono S7.out.1.low, Keep5.of_below hb⟩
  have S8 : Hid (St7 w X8 B cs.length db (runM cs) ov cs v1 v2 v4 l1 l2 l4) :=
    ⟨S7.out.1.later hb, S7.out.2.1.fr (Nat.le_refl _) hfx, S7.out.2.2.1.keep hfx.2, S7.out.2.2.2.1.keep hfx.2, S7.out.2.2.2.2.1.keep hfx.2, below_after S7.out.2.2.2.2.2 hb⟩
  have U8 := hide (And.intro (U7.out.keep (Keep5.of_below hb)) hv)
  clear hv hb hfx S7 U7
  go_wp2_with fail
  refine (set_holds (o := ⟨l1, l2, d⟩) S8.out.1 (by rw [HL.out]; omega) U8.out.1 U8.out.2).mono ?_
  rintro e X9 ⟨rfl, hD, hf⟩
  have S9 : Hid (St7 w X9 B (cs.length + 1) db (stepM (runM cs) ⟨l1, l2, d⟩) ov cs v1 v2 v4 l1 l2 l4) :=
    ⟨hD, S8.out.2.1.fr (Nat.le_refl _) hf, S8.out.2.2.1.keep hf.2, S8.out.2.2.2.1.keep hf.2, S8.out.2.2.2.2.1.keep hf.2, S8.out.2.2.2.2.2.trans (hf.1.mono HB6.out)⟩
  clear hD hf S8 U8
  have M1 : Hid (stepM (runM cs) ⟨l1, l2, d⟩ (bts l1) = some (l2, d)) := by rw [Hid, stepM, if_pos rfl]
  have M4 : Hid (bts l4 ≠ bts l1 → stepM (runM cs) ⟨l1, l2, d⟩ (bts l4) = runM cs (bts l4)) := fun hne => by rw [stepM, if_neg hne]
  generalize stepM (runM cs) ⟨l1, l2, d⟩ = M at S9 M1 M4
  go_wp2_with fail
  refine (get_some S9.out.1 S9.out.2.2.1 M1.out).mono ?_
  rintro e _ ⟨g1, rfl, hg, m1, rfl⟩
  have S10 := hide (S9.out.drewN m1)
  have G10 : Hid (BV (X9.drewN m1) g1 l2) := hg
  clear S9 hg
  generalize X9.drewN m1 = X10 at S10 G10 ⊢
  go_wp2_with fail
  refine (dl_some S10.out.1 S10.out.2.2.1 M1.out).mono ?_
  rintro e _ ⟨rfl, m2, rfl⟩
  have S11 := hide (S10.out.drewN m2)
  have G11 : Hid (BV (X10.drewN m2) g1 l2) := G10.out
  clear S10 G10
  generalize X10.drewN m2 = X11 at S11 G11 ⊢
  go_wp2_with fail
  refine (kind_some S11.out.1 S11.out.2.2.1 M1.out).mono ?_
  rintro e _ ⟨rfl, m3, rfl⟩
  have S12 := hide (S11.out.drewN m3)
  have G12 : Hid (BV (X11.drewN m3) g1 l2) := G11.out
  clear S11 G11
  generalize X11.drewN m3 = X12 at S12 G12 ⊢
  go_wp2_with fail
  refine (sameValue_yes X12 G12.out S12.out.2.2.2.1).mono ?_
  rintro e _ ⟨rfl, m4, rfl⟩
  have S13 := hide (S12.out.drewN m4)
  clear S12 G12
  generalize X12.drewN m4 = X13 at S13 ⊢
  go_wp2_with fail
  refine (bytesEq_bv X13 S13.out.2.2.2.2.1 S13.out.2.2.1).mono ?_
  rintro e _ ⟨rfl, m5, rfl⟩
  have S14 := hide (S13.out.drewN m5)
  clear S13
  generalize X13.drewN m5 = X14 at S14 ⊢
  by_cases hk : bts l4 = bts l1
  · rw [decide_eq_true hk]
    clear hk
    go_wp2_with fail
    go_ret
    exact ⟨rfl, S14.out.2.2.2.2.2⟩
  · rw [decide_eq_false hk]
    have hM4 := M4.out hk
    clear hk
    rcases lastN_run cs (bts l4) cs.length (Nat.le_refl _) with ⟨hl, hr⟩ | ⟨i, o, hl, hio, hko, hr⟩
    · rw [List.take_length] at hr
      have HLN := hide hl
      have HR := hide (hM4.trans hr)
      clear hl hr hM4
      go_wp2_with fail
      refine (get_none S14.out.1 S14.out.2.2.2.2.1 HR.out).mono ?_
      rintro e _ ⟨rfl, m6, rfl⟩
      have S15 := hide (S14.out.drewN m6)
      clear S14
      generalize X14.drewN m6 = X15 at S15 ⊢
      go_wp2_with fail
      refine (dl_none S15.out.1 S15.out.2.2.2.2.1 HR.out).mono ?_
      rintro e _ ⟨rfl, m7, rfl⟩
      have S16 := hide (S15.out.drewN m7)
      clear S15
      generalize X15.drewN m7 = X16 at S16 ⊢
      go_wp2_with fail
      refine (lastOp_any X16 S16.out.2.1 (by rw [HL.out]; omega) S16.out.2.2.2.2.1).mono ?_
      rintro e _ ⟨rfl, m8, rfl⟩
      rw [HLN.out]
      have hq := fun (w : World) (a : Option Addr) (n c : Nat) => Lib.run_eql_slice_nil (P := Try.prog) w 22 5 a n c 0 0 Try.underlying22
      go_wp2_with fail
      go_ret
      exact ⟨rfl, (S16.out.drewN m8).2.2.2.2.2⟩
    · rw [List.take_length] at hr
      have HLN := hide hl
      have HR := hide (hM4.trans hr)
      have HIO := hide hio
      clear hl hr hM4 hio hko
      go_wp2_with fail
      refine (get_some S14.out.1 S14.out.2.2.2.2.1 HR.out).mono ?_
      rintro e _ ⟨g2, rfl, hg, m6, rfl⟩
      have S15 := hide (S14.out.drewN m6)
      have G15 : Hid (BV (X14.drewN m6) g2 o.v) := hg
      clear S14 hg
      generalize X14.drewN m6 = X15 at S15 G15 ⊢
      go_wp2_with fail
      refine (dl_some S15.out.1 S15.out.2.2.2.2.1 HR.out).mono ?_
      rintro e _ ⟨rfl, m7, rfl⟩
      have S16 := hide (S15.out.drewN m7)
      have G16 : Hid (BV (X15.drewN m7) g2 o.v) := G15.out
      clear S15 G15
      generalize X15.drewN m7 = X16 at S16 G16 ⊢
      go_wp2_with fail
      refine (lastOp_any X16 S16.out.2.1 (by rw [HL.out]; omega) S16.out.2.2.2.2.1).mono ?_
      rintro e _ ⟨rfl, m8, rfl⟩
      rw [HLN.out]
      have S17 := hide (S16.out.drewN m8)
      have G17 : Hid (BV (X16.drewN m8) g2 o.v) := G16.out
      clear S16 G16
      generalize X16.drewN m8 = X17 at S17 G17 ⊢
      have hi : i < cs.length := (List.getElem?_eq_some_iff.1 HIO.out).1
      obtain ⟨cb, kv', vv', hv', hcb, p0, p1, p2, t0, t1⟩ := OpsCl.at S17.out.2.1 hi
      have ho : cs[i] = o := (List.getElem?_eq_some_iff.1 HIO.out).2
      rw [ho] at t1 p2
      have T1 := hide t1
      subst hv'
      have i1 : (0 : Int) ≤ (i : Int) := by omega
      have i2 : (i : Int) < (cs.length : Int) := by omega
      clear p0 t0 t1 ho hi
      go_wp2_with fail
      refine (sameValue_yes X17 G17.out T1.out).mono ?_
      rintro e _ ⟨rfl, m9, rfl⟩
      have p2' : (X17.drewN m9).cell? ⟨cb, i * 3 + 2, none⟩ = some (.int .i64 o.d) := p2
      go_wp2_with fail
      go_ret
      exact ⟨rfl, (S17.out.drewN m9).2.2.2.2.2⟩

set_option maxRecDepth 20000 in
set_option maxHeartbeats 2000000 in
theorem sok_early (a : Option Addr) (os : List RawOp) (c : Nat) (a1 a2 a4 : Option Addr) (n1 n2 n4 : Nat) (c1 c2 c4 : Nat) (d : Int) (w : World) (h : OpsArg w a os) (hn : os.length ≤ maxLen) (h1 : n1 ≤ maxLen) (h2 : n2 ≤ maxLen) (h4 : n4 ≤ maxLen)
    (hl : ¬ (os.length ≤ 4096 ∧ n1 ≤ 65536 ∧ n2 ≤ 65536 ∧ n4 ≤ 65536)) :
    Calls Try.prog 7 #[.slice a os.length c, .slice a1 n1 c1, .slice a2 n2 c2, .int .i64 d, .slice a4 n4 c4] w fun e w' => e = .returned (.bool true) ∧ Below w.heap.size w w' := by
  have H41 := hide (zzb41 a os c a1 a2 a4 n1 c1 n2 c2 n4 c4 d w h hn h1 h2 h4)
  have HL := hide hl
  clear h hn h1 h2 h4 hl
  by_cases q0 : os.length ≤ 4096
  · by_cases q1 : n1 ≤ 65536
    · by_cases q2 : n2 ≤ 65536
      · have q4 : 65536 < n4 := by have := HL.out; omega
        go_enter Try.func7, Try.ntmps7
        go_wp2_with fail
        refine H41.out.mono ?_
        rintro e _ ⟨rfl, b, rfl, hb⟩
        clear hb
        cases b <;> (go_wp2_with fail; go_ret; exact ⟨rfl, Below.refl _ _⟩)
      · go_enter Try.func7, Try.ntmps7
        go_wp2_with fail
        refine H41.out.mono ?_
        rintro e _ ⟨rfl, b, rfl, hb⟩
        clear hb
        cases b <;> (go_wp2_with fail; go_ret; exact ⟨rfl, Below.refl _ _⟩)
    · go_enter Try.func7, Try.ntmps7
      go_wp2_with fail
      refine H41.out.mono ?_
      rintro e _ ⟨rfl, b, rfl, hb⟩
      clear hb
      cases b <;> (go_wp2_with fail; go_ret; exact ⟨rfl, Below.refl _ _⟩)
  · go_enter Try.func7, Try.ntmps7
    go_wp2_with fail
    refine H41.out.mono ?_
    rintro e _ ⟨rfl, b, rfl, hb⟩
    clear hb
    cases b <;> (go_wp2_with fail; go_ret; exact ⟨rfl, Below.refl _ _⟩)

theorem sok_any (a : Option Addr) (os : List RawOp) (c : Nat) (a1 a2 a4 : Option Addr) (k1 k2 k4 : List UInt8) (c1 c2 c4 : Nat) (d : Int) (w : World) (h : OpsArg w a os) (h0 : a = none → os = [] ∧ c = 0) (hn : os.length ≤ maxLen) (r1 : CameB w a1 k1 c1) (r2 : CameB w a2 k2 c2) (r4 : CameB w a4 k4 c4) :
    Calls Try.prog 7 #[.slice a os.length c, .slice a1 k1.length c1, .slice a2 k2.length c2, .int .i64 d, .slice a4 k4.length c4] w fun e w' => e = .returned (.bool true) ∧ Below w.heap.size w w' := by
  by_cases hl : os.length ≤ 4096 ∧ k1.length ≤ 65536 ∧ k2.length ≤ 65536 ∧ k4.length ≤ 65536
  · exact sok_core a os c a1 a2 a4 k1 k2 k4 c1 c2 c4 d w h h0 r1 r2 r4 hl.1 hl.2.1 hl.2.2.1 hl.2.2.2
  · exact sok_early a os c a1 a2 a4 _ _ _ c1 c2 c4 d w h hn r1.2.2 r2.2.2 r4.2.2 hl
end Go.Proofs.Qxb6615097a
