/- The walk of FnGetReturnsLastSetValue. -/
import Derived.Test.Qxb6615097aBuild
namespace Go.Proofs.Qxb6615097a
open Go.RowKit

theorem sameValue_yes {v1 v2 : Value} {l : Option (List UInt8)} (w : World) (h1 : BV w v1 l) (h2 : BV w v2 l) :
    Calls Try.prog 16 #[v1, v2] w fun e w' => e = .returned (.bool true) ∧ ∃ n, w' = w.drewN n := by
  refine (sameValue_bv w h1 h2).mono ?_
  rintro e w' ⟨rfl, hw⟩
  exact ⟨by simp, hw⟩

section
variable {B n : Nat} {w : World} {db : Nat} {M : List UInt8 → Option (Option (List UInt8) × Int)}

theorem get_none (h : Holds B n w db M) {kv : Value} {l : Option (List UInt8)} (hk : BV w kv l) (hM : M (bts l) = none) :
    Calls Try.prog 14 #[.pointer (some ⟨db, 0, none⟩), kv] w fun r w' => r = .returned (.tuple #[.slice none 0 0, .bool false]) ∧ ∃ m, w' = w.drewN m := by
  obtain ⟨mb, dv, E, hp, h1, _, _, h4, h5⟩ := h
  have hE : E (bts l) = none := by have := h5 (bts l); rw [hM] at this; simpa using this
  refine (get_any h1 hk).mono ?_
  rintro r w' ⟨v, rfl, hv, hw⟩
  rw [getV, hE] at hv
  rcases hv with ⟨rfl, _⟩ | ⟨_, _, _, _, hx, _⟩
  · exact ⟨by rw [getOk, hE], hw⟩
  · cases hx

theorem get_some (h : Holds B n w db M) {kv : Value} {l : Option (List UInt8)} (hk : BV w kv l) {val : Option (List UInt8)} {d : Int} (hM : M (bts l) = some (val, d)) :
    Calls Try.prog 14 #[.pointer (some ⟨db, 0, none⟩), kv] w fun r w' => ∃ v, r = .returned (.tuple #[v, .bool true]) ∧ BV w v val ∧ ∃ m, w' = w.drewN m := by
  obtain ⟨mb, dv, E, hp, h1, _, _, h4, h5⟩ := h
  have h6 := h5 (bts l)
  rw [hM] at h6
  cases hE : E (bts l) with
  | none => rw [hE] at h6; cases h6
  | some e =>
    rw [hE] at h6
    simp only [Option.map_some, Option.some.injEq, Prod.mk.injEq] at h6
    have hs := h4 _ _ hE
    refine (get_any h1 hk).mono ?_
    rintro r w' ⟨v, rfl, hv, hw⟩
    rw [getV, hE] at hv
    simp only [hs] at hv
    exact ⟨v, by rw [getOk, hE]; simp only [hs]; rfl, h6.1 ▸ hv, hw⟩
end

set_option maxRecDepth 20000 in
set_option maxHeartbeats 2000000 in
theorem glv_core (a : Option Addr) (os : List RawOp) (c : Nat) (qa : Option Addr) (ql : List UInt8) (qc : Nat) (w : World) (h : OpsArg w a os) (h0 : a = none → os = [] ∧ c = 0) (hq : CameB w qa ql qc) (hn : os.length ≤ 4096) (hqn : ql.length ≤ 65536) :
    Calls Try.prog 6 #[.slice a os.length c, .slice qa ql.length qc] w fun e w' => e = .returned (.bool true) ∧ Below w.heap.size w w' := by
  have H39 := hide (zzb39 a os c qa ql.length qc w h (by unfold maxLen; omega) hq.2.2)
  have HQ := hide hq
  have HA := hide h
  have H0 := hide h0
  clear h h0 hq
  go_enter Try.func6, Try.ntmps6
  go_wp2_with fail
  refine H39.out.mono ?_
  rintro e _ ⟨rfl, b, rfl, hb⟩
  cases b
  · go_wp2_with fail
    go_ret
    exact ⟨rfl, Below.refl _ _⟩
  have HS := hide (hb rfl).1
  clear hb
  go_wp2_with fail
  refine (tooBig_any a os c _ w HA.out HS.out (by omega) (by omega) (by omega)).mono ?_
  rintro e _ ⟨⟨b, rfl, _⟩, n1, rfl⟩
  cases b
  rotate_left
  · go_wp2_with fail
    go_ret
    exact ⟨rfl, (Fr.drewN _ _ _).1⟩
  have F1 : Hid (Below w.heap.size w (w.drewN n1)) := (Fr.drewN _ _ _).1
  have A1 : Hid (OpsArg (w.drewN n1) a os) := HA.out
  have Q1 : Hid (CameB (w.drewN n1) qa ql qc) := HQ.out
  generalize w.drewN n1 = X1 at F1 A1 Q1 ⊢
  go_wp2_with fail
  refine (cloneOps_any X1 A1.out HS.out (by omega) H0.out).mono ?_
  rintro e X2 ⟨ov, rfl, ho, hb⟩
  have F2 := hide (below_after F1.out hb)
  have Q2 := hide (Q1.out.later hb)
  have O2 := hide ho
  clear ho hb
  go_wp2_with fail
  refine (clone_arg X2 Q2.out.1 (by omega) Q2.out.2.1).mono ?_
  rintro e X3 ⟨qv, rfl, hv, hb⟩
  have F3 := hide (below_after F2.out hb)
  have O3 : Hid (OpsCl X3 X3.heap.size ov (os.map RawOp.cop)) := (O2.out.fr (Nat.le_refl _) ⟨hb, Keep5.of_below hb⟩).fr hb.size (Fr.refl _ _)
  have V3 := hide hv
  have HL : Hid ((os.map RawOp.cop).length = os.length) := List.length_map _
  clear hv hb
  generalize (if qa.isNone then none else some ql) = l at V3
  generalize os.map RawOp.cop = cs at O3 HL
  go_wp2_with fail
  refine (buildDB_any X3 O3.out (by rw [HL.out]; omega)).mono ?_
  rintro e X4 ⟨db, rfl, hD, hf⟩
  have F4 := hide (F3.out.trans (hf.1.mono F3.out.size))
  have D4 := hide hD
  have O4 := hide (O3.out.fr (Nat.le_refl _) hf)
  have V4 := hide (V3.out.keep hf.2)
  clear hD hf
  generalize X3.heap.size = B at D4 O4
  rcases lastN_run cs (bts l) cs.length (Nat.le_refl _) with ⟨hl, hr⟩ | ⟨i, o, hl, hio, hko, hr⟩
  · rw [List.take_length] at hr
    have HLN := hide hl
    have HR := hide hr
    clear hl hr
    go_wp2_with fail
    refine (get_none D4.out V4.out HR.out).mono ?_
    rintro e _ ⟨rfl, n5, rfl⟩
    go_wp2_with fail
    refine (lastOp_any (X4.drewN n5) (B := B) (O4.out.fr (Nat.le_refl _) (Fr.drewN _ _ _)) (by rw [HL.out]; omega) (show BV (X4.drewN n5) qv l from V4.out)).mono ?_
    rintro e _ ⟨rfl, n6, rfl⟩
    rw [HLN.out]
    have hq := fun (w : World) (a : Option Addr) (n c : Nat) => Lib.run_eql_slice_nil (P := Try.prog) w 22 5 a n c 0 0 Try.underlying22
    go_wp2_with fail
    go_ret
    exact ⟨rfl, F4.out.trans ⟨rfl, rfl, rfl, Nat.le_refl _, fun _ _ => rfl⟩⟩
  · rw [List.take_length] at hr
    have HLN := hide hl
    have HR := hide hr
    have HIO := hide hio
    clear hl hr hio hko
    go_wp2_with fail
    refine (get_some D4.out V4.out HR.out).mono ?_
    rintro e _ ⟨v, rfl, hv, n5, rfl⟩
    have V5 : Hid (BV (X4.drewN n5) v o.v) := hv
    have O5 : Hid (OpsCl (X4.drewN n5) B ov cs) := O4.out.fr (Nat.le_refl _) (Fr.drewN _ _ _)
    have W5 : Hid (BV (X4.drewN n5) qv l) := V4.out
    have F5 : Hid (Below w.heap.size w (X4.drewN n5)) := F4.out.trans ⟨rfl, rfl, rfl, Nat.le_refl _, fun _ _ => rfl⟩
    clear hv
    generalize X4.drewN n5 = X5 at V5 O5 W5 F5 ⊢
    go_wp2_with fail
    refine (lastOp_any X5 O5.out (by rw [HL.out]; omega) W5.out).mono ?_
    rintro e _ ⟨rfl, n6, rfl⟩
    rw [HLN.out]
    have hi : i < cs.length := (List.getElem?_eq_some_iff.1 HIO.out).1
    obtain ⟨cb, kv', vv', hv', hcb, q0, q1, q2, r0, r1⟩ := OpsCl.at O5.out hi
    have ho : cs[i] = o := (List.getElem?_eq_some_iff.1 HIO.out).2
    rw [ho] at r1
    have R1 := hide r1
    subst hv'
    have q1' : (X5.drewN n6).cell? ⟨cb, i * 3 + 1, none⟩ = some vv' := q1
    have i1 : (0 : Int) ≤ (i : Int) := by omega
    have i2 : (i : Int) < (cs.length : Int) := by omega
    clear q0 q1 q2 r0 r1 ho hi
    go_wp2_with fail
    refine (sameValue_yes _ (show BV (X5.drewN n6) v o.v from V5.out) R1.out).mono ?_
    rintro e _ ⟨rfl, n7, rfl⟩
    go_wp2_with fail
    go_ret
    exact ⟨rfl, F5.out.trans ⟨rfl, rfl, rfl, Nat.le_refl _, fun _ _ => rfl⟩⟩

set_option maxRecDepth 20000 in
set_option maxHeartbeats 2000000 in
theorem glv_early (a : Option Addr) (os : List RawOp) (c : Nat) (qa : Option Addr) (qn qc : Nat) (w : World) (h : OpsArg w a os) (hn : os.length ≤ maxLen) (hq : qn ≤ maxLen) (hl : ¬ (os.length ≤ 4096 ∧ qn ≤ 65536)) :
    Calls Try.prog 6 #[.slice a os.length c, .slice qa qn qc] w fun e w' => e = .returned (.bool true) ∧ Below w.heap.size w w' := by
  have H39 := hide (zzb39 a os c qa qn qc w h hn hq)
  have HL := hide hl
  clear h hn hq hl
  by_cases q0 : os.length ≤ 4096
  · have q1 : 65536 < qn := by have := HL.out; omega
    go_enter Try.func6, Try.ntmps6
    go_wp2_with fail
    refine H39.out.mono ?_
    rintro e _ ⟨rfl, b, rfl, hb⟩
    clear hb
    cases b <;> (go_wp2_with fail; go_ret; exact ⟨rfl, Below.refl _ _⟩)
  · go_enter Try.func6, Try.ntmps6
    go_wp2_with fail
    refine H39.out.mono ?_
    rintro e _ ⟨rfl, b, rfl, hb⟩
    clear hb
    cases b <;> (go_wp2_with fail; go_ret; exact ⟨rfl, Below.refl _ _⟩)

theorem glv_any (a : Option Addr) (os : List RawOp) (c : Nat) (qa : Option Addr) (ql : List UInt8) (qc : Nat) (w : World) (h : OpsArg w a os) (h0 : a = none → os = [] ∧ c = 0) (hn : os.length ≤ maxLen) (hq : CameB w qa ql qc) :
    Calls Try.prog 6 #[.slice a os.length c, .slice qa ql.length qc] w fun e w' => e = .returned (.bool true) ∧ Below w.heap.size w w' := by
  by_cases hl : os.length ≤ 4096 ∧ ql.length ≤ 65536
  · exact glv_core a os c qa ql qc w h h0 hq hl.1 hl.2
  · exact glv_early a os c qa ql.length qc w h hn hq.2.2 hl
end Go.Proofs.Qxb6615097a
