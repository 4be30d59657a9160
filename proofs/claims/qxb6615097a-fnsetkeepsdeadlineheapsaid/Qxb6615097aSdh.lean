/- The walk of FnSetKeepsDeadlineHeap. -/
import Derived.Test.Qxb6615097aRead
namespace Go.Proofs.Qxb6615097a
open Go.RowKit

section
variable {B n : Nat} {w : World} {db mb : Nat} {dv : Value} {E : List UInt8 → Option Ent} {hp : List (List UInt8)}

theorem heap_mem {cs : List COp} (h : DBI B n w db mb dv E hp) (hI : Inv E hp) (hM : ∀ k, (E k).map (fun e => (e.val, e.dl)) = runM cs k) (k : List UInt8) : k ∈ hp ↔ ∃ v d, runM cs k = some (v, d) ∧ d ≠ 0 := by
  constructor
  · intro hk
    obtain ⟨e, he⟩ := Option.isSome_iff_exists.1 (h.mem k hk)
    have := hM k
    rw [he] at this
    exact ⟨e.val, e.dl, this.symm, (hI.1 k e he).1 hk⟩
  · rintro ⟨v, d, hr, hd⟩
    have h2 := hM k
    rw [hr] at h2
    cases hE : E k with
    | none => rw [hE] at h2; cases h2
    | some e =>
      rw [hE] at h2
      simp only [Option.map_some, Option.some.injEq, Prod.mk.injEq] at h2
      exact (hI.1 k e hE).2 (by rw [h2.2]; exact hd)

/-- What the law asks of each place of the heap. -/
theorem heap_key {cs : List COp} (h : DBI B n w db mb dv E hp) (hI : Inv E hp) (hM : ∀ k, (E k).map (fun e => (e.val, e.dl)) = runM cs k) {s : Nat} (hs : s < hp.length) :
    dlOf E (hp.getD s []) ≠ 0 ∧ pos hp (hp.getD s []) = (s : Int) ∧ ∃ i o, lastN cs (hp.getD s []) cs.length = (i : Nat) ∧ cs[i]? = some o ∧ o.d = dlOf E (hp.getD s []) := by
  have hk : hp[s]? = some (hp.getD s []) := by simp [hs]
  have hm : hp.getD s [] ∈ hp := List.mem_iff_getElem?.2 ⟨s, hk⟩
  obtain ⟨v, d, hr, hd⟩ := (heap_mem h hI hM _).1 hm
  have h2 := hM (hp.getD s [])
  rw [hr] at h2
  obtain ⟨i, o, ho, _, _, hod, _, hl⟩ := run_some cs _ v d hr
  have hdl : dlOf E (hp.getD s []) = d := by
    cases hE : E (hp.getD s []) with
    | none => rw [hE] at h2; cases h2
    | some e =>
      rw [hE] at h2
      simp only [Option.map_some, Option.some.injEq, Prod.mk.injEq] at h2
      rw [dlOf, hE]
      exact h2.2
  exact ⟨by rw [hdl]; exact hd, (pos_eq _ _).trans (posL_at h.nodup hk), i, o, hl, ho, by rw [hod, hdl]⟩

theorem heap_ne (h : DBI B n w db mb dv E hp) {s t : Nat} (hs : s < hp.length) (ht : t < s) : ¬ str (hp.getD t []) = str (hp.getD s []) := by
  intro e
  have e1 := str_inj e
  have h1 : hp[t]? = some (hp.getD t []) := by simp [show t < hp.length by omega]
  have h2 : hp[s]? = some (hp.getD s []) := by simp [hs]
  have p1 := posL_at h.nodup h1
  have p2 := posL_at h.nodup h2
  rw [e1, p2] at p1
  omega

theorem dval_at (h : DBI B n w db mb dv E hp) {s : Nat} {x : Int} (hx : x = (s : Int)) (hs : s < hp.length) : Calls Try.prog 24 #[.pointer (some ⟨db, 0, none⟩), .int .i64 x] w fun e w' => e = .returned (.int .i64 (dlOf E (hp.getD s []))) ∧ w' = w := by
  subst hx
  exact dval_any h hs
end

/-- What stands while the law reads. -/
def Stt (w0 : World) (B n db mb : Nat) (dv ov : Value) (E : List UInt8 → Option Ent) (hp : List (List UInt8)) (cs : List COp) (w : World) : Prop := OpsCl w B ov cs ∧ DBI B n w db mb dv E hp ∧ Below w0.heap.size w0 w
theorem Stt.drewN {w0 : World} {B n db mb : Nat} {dv ov : Value} {E : List UInt8 → Option Ent} {hp : List (List UInt8)} {cs : List COp} {w : World} (h : Stt w0 B n db mb dv ov E hp cs w) (m : Nat) : Stt w0 B n db mb dv ov E hp cs (w.drewN m) :=
  ⟨h.1.fr (Nat.le_refl _) (Fr.drewN _ _ _), h.2.1.drewN m, h.2.2.trans ⟨rfl, rfl, rfl, Nat.le_refl _, fun _ _ => rfl⟩⟩

set_option maxRecDepth 20000 in
set_option maxHeartbeats 4000000 in
theorem sdh_core (a : Option Addr) (os : List RawOp) (c : Nat) (w : World) (h : OpsArg w a os) (h0 : a = none → os = [] ∧ c = 0) (hn : os.length ≤ 1024) :
    Calls Try.prog 4 #[.slice a os.length c] w fun e w' => e = .returned (.bool true) ∧ Below w.heap.size w w' := by
  have H17 := hide (zzb17 a os c w h (by unfold maxLen; omega))
  have HA := hide h
  have H0 := hide h0
  clear h h0
  go_enter Try.func4, Try.ntmps4
  go_wp2_with fail
  refine H17.out.mono ?_
  rintro e _ ⟨rfl, b, rfl, hb⟩
  cases b
  · go_wp2_with fail
    go_ret
    exact ⟨rfl, Below.refl _ _⟩
  have HS := hide (hb rfl).1
  clear hb
  go_wp2_with fail
  refine (tooBig_any a os c _ w HA.out HS.out (by omega) (by omega) (by omega)).mono ?_
  rintro e _ ⟨⟨b, rfl, _⟩, n1, rfl⟩
  cases b
  rotate_left
  · go_wp2_with fail
    go_ret
    exact ⟨rfl, (Fr.drewN _ _ _).1⟩
  have F1 : Hid (Below w.heap.size w (w.drewN n1)) := (Fr.drewN _ _ _).1
  have A1 : Hid (OpsArg (w.drewN n1) a os) := HA.out
  generalize w.drewN n1 = X1 at F1 A1 ⊢
  go_wp2_with fail
  refine (cloneOps_any X1 A1.out HS.out (by omega) H0.out).mono ?_
  rintro e X3 ⟨ov, rfl, ho, hb⟩
  have F3 := hide (below_after F1.out hb)
  have O3 := hide ho
  have HL : Hid ((os.map RawOp.cop).length = os.length) := List.length_map _
  clear ho hb
  generalize os.map RawOp.cop = cs at O3 HL
  go_wp2_with fail
  refine (buildDB_any X3 O3.out (by rw [HL.out]; omega)).mono ?_
  rintro e X4 ⟨db, rfl, hD, hf⟩
  obtain ⟨mb, dv, E, hp, D, I, hl, hs, hM⟩ := hD
  have S4 : Hid (Stt w X3.heap.size cs.length db mb dv ov E hp cs X4) := ⟨O3.out.fr (Nat.le_refl _) hf, D, F3.out.trans (hf.1.mono F3.out.size)⟩
  have HH : Hid (∀ X, DBI X3.heap.size cs.length X db mb dv E hp → Holds X3.heap.size cs.length X db (runM cs)) := fun X hX => ⟨mb, dv, E, hp, hX, I, hl, hs, hM⟩
  have HC : Hid (hp.length = cnt cs cs.length) := hp_length cs hp D.nodup (heap_mem D I hM)
  have HI := hide I
  have HM := hide hM
  have hcl : cs.length ≤ 1024 := by rw [HL.out]; exact hn
  have hpl : hp.length ≤ 1024 := by omega
  clear hf D I hl hs hM F3 O3 A1 F1 H0 HA HS
  generalize X3.heap.size = B at S4 HH
  obtain ⟨oa, rfl⟩ := S4.out.1.shape
  go_wp2_with fail
  go_loopw [4, 5] (fun cn i wr => ∃ k : Nat, k ≤ cs.length ∧ i = .int .i64 k ∧ cn = .int .i64 (cnt cs k) ∧ Hid (Stt w B cs.length db mb dv (.slice oa cs.length cs.length) E hp cs wr)) (fun _ i _ => cs.length - (intOf i).toNat)
  case atStart => exact ⟨0, Nat.zero_le _, rfl, rfl, S4⟩
  case round =>
    obtain ⟨k, hk, rfl, rfl, hS⟩ := hrel
    have hck := cnt_le cs k
    by_cases hlt : k < cs.length
    · have hko : cs[k]? = some cs[k] := List.getElem?_eq_getElem hlt
      have HKO := hide hko
      have HCS := hide (cnt_succ cs k)
      clear hko
      generalize hok : cs[k] = o at HKO
      have HOK := hide hok
      clear hok
      generalize hcn : cnt cs k = cn at hck HCS ⊢
      clear hcn
      go_wp2_with fail
      refine (isLast_any wr hS.out.1 (by omega) HKO.out).mono ?_
      rintro e _ ⟨rfl, n5, rfl⟩
      have S5 := hide (hS.out.drewN n5)
      generalize wr.drewN n5 = X5 at S5 ⊢
      clear hS
      cases hb : noneFrom cs (bts o.k) (k + 1)
      · have HNX : Hid (cnt cs (k + 1) = cn) := by
          rw [Hid, HCS.out, lastNZ, HKO.out]
          simp [hb]
        clear hb
        go_wp2_with fail
        go_roundw
        case rel => exact ⟨k + 1, by omega, by go_num, by rw [HNX.out], S5⟩
        case measure => simp [intOf]; omega
      · have HR := hide (run_last cs k o HKO.out hb)
        have HNX : Hid (cnt cs (k + 1) = cn + (if o.d != 0 then 1 else 0)) := by
          rw [Hid, HCS.out, lastNZ, HKO.out]
          simp [hb]
        clear hb
        obtain ⟨cb, kv, vv, hv, hcb, q0, q1, q2, r0, r1⟩ := OpsCl.at S5.out.1 hlt
        obtain rfl : oa = some ⟨cb, 0, none⟩ := by simpa using hv
        rw [HOK.out] at q2 r0
        have R0 := hide r0
        have HQ : Hid (∀ m, (X5.drewN m).cell? ⟨cb, k * 3, none⟩ = some kv ∧ (X5.drewN m).cell? ⟨cb, k * 3 + 2, none⟩ = some (.int .i64 o.d)) := fun m => ⟨q0, q2⟩
        have i1 : (0 : Int) ≤ (k : Int) := by omega
        have i2 : (k : Int) < (cs.length : Int) := by omega
        clear hv hcb q1 r0 r1
        go_wp2_with fail
        refine (dl_some (HH.out _ S5.out.2.1) R0.out HR.out).mono ?_
        rintro e _ ⟨rfl, n6, rfl⟩
        have S6 := hide (S5.out.drewN n6)
        obtain ⟨q0', q2'⟩ := HQ.out n6
        clear q0 q2 HQ
        generalize X5.drewN n6 = X6 at S6 q0' q2' ⊢
        by_cases hd : o.d = 0
        · have HNX2 : Hid (cnt cs (k + 1) = cn) := by rw [Hid, HNX.out]; simp [hd]
          rw [hd] at q2' ⊢
          clear hd
          go_wp2_with fail
          go_roundw
          case rel => exact ⟨k + 1, by omega, by go_num, by rw [HNX2.out], S6⟩
          case measure => simp [intOf]; omega
        · have HNX2 : Hid (cnt cs (k + 1) = cn + 1) := by rw [Hid, HNX.out]; simp [hd]
          go_wp2_with fail
          go_roundw
          case rel => exact ⟨k + 1, by omega, by go_num, by rw [HNX2.out]; go_num, S6⟩
          case measure => simp [intOf]; omega
    · have hkk : k = cs.length := by omega
      rw [hkk, ← HC.out]
      clear hkk hck hk hlt
      go_wp2_with fail
      refine (dlen_any hS.out.2.1).mono ?_
      rintro e _ ⟨rfl, rfl⟩
      go_wp2_with fail
      go_loop [9] (fun s => ∃ k : Nat, k ≤ hp.length ∧ s = .int .i64 k) (fun s => hp.length - (intOf s).toNat)
      case atStart => exact ⟨0, Nat.zero_le _, rfl⟩
      case round =>
        obtain ⟨k, hk, rfl⟩ := hrel
        by_cases hlt : k < hp.length
        · obtain ⟨hx, hpo, i, o, hln, hio, hod⟩ := heap_key hS.out.2.1 HI.out HM.out hlt
          have HDV := hide (dval_any hS.out.2.1 hlt)
          have HDI := hide (didx_any hS.out.2.1 hlt)
          have HDK := hide (dkey_any hS.out.2.1 hlt)
          have HLS := hide (lastOpStr_any _ hS.out.1 (by omega) (hp.getD k []))
          have HNE := hide (fun t ht => heap_ne (t := t) hS.out.2.1 hlt ht)
          have HORD := hide (HI.out.2 k)
          rw [hpo] at HDI
          rw [hln] at HLS
          clear hpo hln
          generalize hdl : dlOf E (hp.getD k []) = x at hx HDV HORD hod
          clear hdl
          generalize str (hp.getD k []) = key at HDK HLS HNE
          have hi : i < cs.length := (List.getElem?_eq_some_iff.1 hio).1
          obtain ⟨cb, kv, vv, hv, hcb, q0, q1, q2, r0, r1⟩ := OpsCl.at hS.out.1 hi
          rw [(List.getElem?_eq_some_iff.1 hio).2, hod] at q2
          obtain rfl : oa = some ⟨cb, 0, none⟩ := by simpa using hv
          have i1 : (0 : Int) ≤ (i : Int) := by omega
          have i2 : (i : Int) < (cs.length : Int) := by omega
          clear hv hcb q0 q1 r0 r1 hio hod
          go_wp2_with fail
          refine HDV.out.mono ?_
          rintro e _ ⟨rfl, rfl⟩
          go_wp2_with fail
          refine HDI.out.mono ?_
          rintro e _ ⟨rfl, rfl⟩
          cases k with
          | zero =>
            clear HORD
            go_wp2_with fail
            refine HDK.out.mono ?_
            rintro e _ ⟨rfl, rfl⟩
            go_wp2_with fail
            refine HLS.out.mono ?_
            rintro e _ ⟨rfl, rfl⟩
            go_wp2_with fail
            go_loop [13] (fun t => ∃ j : Nat, j ≤ 0 ∧ t = .int .i64 j) (fun t => 0 - (intOf t).toNat)
            case atStart => exact ⟨0, Nat.zero_le _, rfl⟩
            case round =>
              obtain ⟨j, hj, rfl⟩ := hrel
              by_cases hjl : j < 0
              · exact absurd hjl (Nat.not_lt_zero _)
              · have hjj : j = 0 := by omega
                subst hjj
                clear hj hjl
                go_wp2_with fail
                go_round
                case rel => exact ⟨0 + 1, by omega, by go_num⟩
                case measure => simp [intOf]; omega
          | succ q =>
            have hor := HORD.out (by omega) hlt
            rw [show q + 1 - 1 = q from rfl] at hor
            have HDP := hide (fun x hx => dval_at (s := q / 2) (x := x) hS.out.2.1 hx (by omega))
            generalize dlOf E (hp.getD (q / 2) []) = y at HDP hor
            clear HORD
            go_wp2_with fail
            refine (HDP.out _ (by omega)).mono ?_
            rintro e _ ⟨rfl, rfl⟩
            go_wp2_with fail
            refine HDK.out.mono ?_
            rintro e _ ⟨rfl, rfl⟩
            go_wp2_with fail
            refine HLS.out.mono ?_
            rintro e _ ⟨rfl, rfl⟩
            go_wp2_with fail
            go_loop [13] (fun t => ∃ j : Nat, j ≤ (q + 1) ∧ t = .int .i64 j) (fun t => (q + 1) - (intOf t).toNat)
            case atStart => exact ⟨0, Nat.zero_le _, rfl⟩
            case round =>
              obtain ⟨j, hj, rfl⟩ := hrel
              by_cases hjl : j < (q + 1)
              · have hne := HNE.out j hjl
                have HDJ := hide (dkey_any (s := j) hS.out.2.1 (by omega))
                generalize str (hp.getD j []) = kj at hne HDJ
                have hne' := ba_ne hne
                clear hne
                go_wp2_with fail
                refine HDJ.out.mono ?_
                rintro e _ ⟨rfl, rfl⟩
                go_wp2_with fail
                go_round
                case rel => exact ⟨j + 1, by omega, by go_num⟩
                case measure => simp [intOf]; omega
              · have hjj : j = (q + 1) := by omega
                subst hjj
                clear hj hjl
                go_wp2_with fail
                go_round
                case rel => exact ⟨(q + 1) + 1, by omega, by go_num⟩
                case measure => simp [intOf]; omega
        · have hkk : k = hp.length := by omega
          clear hk hlt
          go_wp2_with fail
          go_ret
          exact ⟨rfl, hS.out.2.2⟩

set_option maxRecDepth 20000 in
theorem sdh_early (a : Option Addr) (os : List RawOp) (c : Nat) (w : World) (h : OpsArg w a os) (hn : os.length ≤ maxLen) (hl : 1024 < os.length) :
    Calls Try.prog 4 #[.slice a os.length c] w fun e w' => e = .returned (.bool true) ∧ Below w.heap.size w w' := by
  have H17 := hide (zzb17 a os c w h hn)
  clear h hn
  go_enter Try.func4, Try.ntmps4
  go_wp2_with fail
  refine H17.out.mono ?_
  rintro e _ ⟨rfl, b, rfl, hb⟩
  clear hb
  cases b <;> (go_wp2_with fail; go_ret; exact ⟨rfl, Below.refl _ _⟩)

theorem sdh_any (a : Option Addr) (os : List RawOp) (c : Nat) (w : World) (h : OpsArg w a os) (h0 : a = none → os = [] ∧ c = 0) (hn : os.length ≤ maxLen) :
    Calls Try.prog 4 #[.slice a os.length c] w fun e w' => e = .returned (.bool true) ∧ Below w.heap.size w w' := by
  by_cases hl : os.length ≤ 1024
  · exact sdh_core a os c w h h0 hl
  · exact sdh_early a os c w h hn (by omega)
end Go.Proofs.Qxb6615097a
