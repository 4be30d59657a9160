/- The walk of FnGetRefusesCollectionKeys. -/
import Derived.Test.Qxb6615097aPutSet
namespace Go.Proofs.Qxb6615097a
open Go.RowKit

set_option maxHeartbeats 400000 in
theorem zzb8 (a0 a1 a2 a4 : Option Addr) (n0 n1 n2 n4 c0 c1 c2 c4 : Nat) (s : ByteArray) (w : World) (h0 : n0 ≤ maxLen) (h1 : n1 ≤ maxLen) (h2 : n2 ≤ maxLen) (h3 : s.size ≤ maxLen) (h4 : n4 ≤ maxLen) :
    Calls Try.prog 8 #[.slice a0 n0 c0, .slice a1 n1 c1, .slice a2 n2 c2, .string s, .slice a4 n4 c4] w fun e w' => w = w' ∧ ∃ b, e = .returned (.bool b) ∧ (b = true → n0 + n1 + n2 + s.size + n4 ≤ 1048576) := by
  unfold maxLen at h0 h1 h2 h3 h4
  go_enter Try.func8, Try.ntmps8
  go_wp2
  all_goals go_ret
  all_goals first
    | exact ⟨rfl, false, rfl, fun h => by cases h⟩
    | exact ⟨rfl, true, rfl, fun _ => by omega⟩

theorem sameValue_true {v1 v2 : Value} {l : Option (List UInt8)} (w : World) (h1 : BV w v1 l) (h2 : BV w v2 l) :
    Calls Try.prog 16 #[v1, v2] w fun e w' => e = .returned (.bool true) ∧ ∃ n, w' = w.drewN n := by
  refine (sameValue_bv w h1 h2).mono ?_
  rintro e w' ⟨rfl, hw⟩
  exact ⟨by simp, hw⟩

section
variable {B n : Nat} {w : World} {db mb : Nat} {dv : Value} {E : List UInt8 → Option Ent} {hp : List (List UInt8)}

theorem get_str (h : DBI B n w db mb dv E hp) {kv : Value} {l : Option (List UInt8)} (hk : BV w kv l) {e : Ent} (hE : E (bts l) = some e) (hs : e.set = false) :
    Calls Try.prog 14 #[.pointer (some ⟨db, 0, none⟩), kv] w fun r w' => ∃ v, r = .returned (.tuple #[v, .bool true]) ∧ BV w v e.val ∧ ∃ m, w' = w.drewN m := by
  refine (get_any h hk).mono ?_
  rintro r w' ⟨v, rfl, hv, hw⟩
  rw [getV, hE] at hv
  simp only [hs] at hv
  exact ⟨v, by rw [getOk, hE]; simp only [hs]; rfl, hv, hw⟩

theorem get_coll (h : DBI B n w db mb dv E hp) {kv : Value} {l : Option (List UInt8)} (hk : BV w kv l) {e : Ent} (hE : E (bts l) = some e) (hs : e.set = true) :
    Calls Try.prog 14 #[.pointer (some ⟨db, 0, none⟩), kv] w fun r w' => r = .returned (.tuple #[.slice none 0 0, .bool false]) ∧ ∃ m, w' = w.drewN m := by
  refine (get_any h hk).mono ?_
  rintro r w' ⟨v, rfl, hv, hw⟩
  rw [getV, hE] at hv
  simp only [hs] at hv
  rcases hv with ⟨rfl, _⟩ | ⟨_, _, _, _, hx, _⟩
  · exact ⟨by rw [getOk, hE]; simp only [hs]; rfl, hw⟩
  · cases hx

theorem kind_at (h : DBI B n w db mb dv E hp) {kv : Value} {l : Option (List UInt8)} (hk : BV w kv l) {e : Ent} (hE : E (bts l) = some e) {x : Int} (hx : (if e.set then 3 else 0) = x) :
    Calls Try.prog 15 #[.pointer (some ⟨db, 0, none⟩), kv] w fun r w' => r = .returned (.tuple #[.int .u8 x, .bool true]) ∧ ∃ m, w' = w.drewN m := by
  refine (kind_any h hk).mono ?_
  rintro r w' ⟨rfl, hw⟩
  rw [kindOf, hE]
  exact ⟨by simp only [hx, Option.isSome_some], hw⟩
end

/-- The four byte slices that the law holds, in the world X. -/
def St (w X : World) (v0 v1 v2 v4 : Value) (l0 l1 l2 l4 : Option (List UInt8)) : Prop := BV X v0 l0 ∧ BV X v1 l1 ∧ BV X v2 l2 ∧ BV X v4 l4 ∧ Below w.heap.size w X

theorem St.below {w X X' : World} {v0 v1 v2 v4 : Value} {l0 l1 l2 l4 : Option (List UInt8)} (h : St w X v0 v1 v2 v4 l0 l1 l2 l4) (hb : Below X.heap.size X X') : St w X' v0 v1 v2 v4 l0 l1 l2 l4 :=
  ⟨h.1.keep (Keep5.of_below hb), h.2.1.keep (Keep5.of_below hb), h.2.2.1.keep (Keep5.of_below hb), h.2.2.2.1.keep (Keep5.of_below hb), h.2.2.2.2.trans (hb.mono h.2.2.2.2.size)⟩
theorem St.fr {w X X' : World} {B : Nat} {v0 v1 v2 v4 : Value} {l0 l1 l2 l4 : Option (List UInt8)} (h : St w X v0 v1 v2 v4 l0 l1 l2 l4) (hf : Fr B X X') (hB : w.heap.size ≤ B) : St w X' v0 v1 v2 v4 l0 l1 l2 l4 :=
  ⟨h.1.keep hf.2, h.2.1.keep hf.2, h.2.2.1.keep hf.2, h.2.2.2.1.keep hf.2, h.2.2.2.2.trans (hf.1.mono hB)⟩
theorem St.drewN {w X : World} {v0 v1 v2 v4 : Value} {l0 l1 l2 l4 : Option (List UInt8)} (h : St w X v0 v1 v2 v4 l0 l1 l2 l4) (n : Nat) : St w (X.drewN n) v0 v1 v2 v4 l0 l1 l2 l4 :=
  h.fr (Fr.drewN w.heap.size X n) (Nat.le_refl _)

def Came (w : World) (a : Option Addr) (l : List UInt8) (c : Nat) : Prop := RdB w a l ∧ (a = none → l = [] ∧ c = 0) ∧ l.length ≤ maxLen

theorem bts_if {w : World} {a : Option Addr} {l : List UInt8} {c : Nat} (h : Came w a l c) : bts (if a.isNone then none else some l) = l := by
  cases a with
  | none => rw [(h.2.1 rfl).1]; rfl
  | some x => rfl

theorem Came.later {w X : World} {a : Option Addr} {l : List UInt8} {c : Nat} (h : Came w a l c) (hb : Below w.heap.size w X) : Came X a l c :=
  ⟨fun i hi => by obtain ⟨b, off, e, hc⟩ := h.1 i hi; exact ⟨b, off, e, cell_later hb hc⟩, h.2⟩

set_option maxRecDepth 20000 in
set_option maxHeartbeats 2000000 in
theorem grc_core (a0 a1 a2 a4 : Option Addr) (s0 s1 s2 s4 : List UInt8) (c0 c1 c2 c4 : Nat) (m : ByteArray) (w : World) (r0 : Came w a0 s0 c0) (r1 : Came w a1 s1 c1) (r2 : Came w a2 s2 c2) (hm : m.size ≤ maxLen) (r4 : Came w a4 s4 c4)
    (_hsum : s0.length + s1.length + s2.length + m.size + s4.length ≤ 1048576) (q0 : s0.length ≤ 65536) (q1 : s1.length ≤ 65536) (q2 : s2.length ≤ 65536) (q3 : m.size ≤ 65536) (q4 : s4.length ≤ 65536) (hne : s0 ≠ s2) :
    Calls Try.prog 3 #[.slice a0 s0.length c0, .slice a1 s1.length c1, .slice a2 s2.length c2, .string m, .slice a4 s4.length c4] w fun e w' => e = .returned (.bool true) ∧ Below w.heap.size w w' := by
  have H8 := hide (zzb8 a0 a1 a2 a4 s0.length s1.length s2.length s4.length c0 c1 c2 c4 m)
  have R0 := hide r0
  have R1 := hide r1
  have R2 := hide r2
  have R4 := hide r4
  have HM := hide hm
  have HN := hide hne
  clear r0 r1 r2 r4 hm hne
  go_enter Try.func3, Try.ntmps3
  go_wp2_with fail
  refine (H8.out w R0.out.2.2 R1.out.2.2 R2.out.2.2 HM.out R4.out.2.2).mono ?_
  rintro e w' ⟨rfl, b, rfl, hb⟩
  clear hb
  cases b
  · go_wp2_with fail
    go_ret
    exact ⟨rfl, Below.refl _ _⟩
  go_wp2_with fail
  refine (bytesEq_any a0 a2 s0 s2 c0 c2 _ R0.out.1 R2.out.1 R0.out.2.2 R2.out.2.2).mono ?_
  rintro e w' ⟨rfl, n, rfl⟩
  rw [decide_eq_false HN.out]
  go_wp2_with fail
  have B0 : Hid (Below w.heap.size w (w.drewN n)) := (Fr.drewN _ _ _).1
  refine (clone_arg (w.drewN n) (R0.out.later B0.out).1 (by omega) R0.out.2.1).mono ?_
  rintro e X1 ⟨v0, rfl, h0, hb⟩
  have V0 := hide h0
  have B1 : Hid (Below w.heap.size w X1) := B0.out.trans (hb.mono B0.out.size)
  clear h0 hb
  go_wp2_with fail
  refine (clone_arg X1 (R1.out.later B1.out).1 (by omega) R1.out.2.1).mono ?_
  rintro e X2 ⟨v1, rfl, h1, hb⟩
  have V1 := hide (And.intro (V0.out.keep (Keep5.of_below hb)) h1)
  have B2 : Hid (Below w.heap.size w X2) := B1.out.trans (hb.mono B1.out.size)
  clear h1 hb
  go_wp2_with fail
  refine (clone_arg X2 (R2.out.later B2.out).1 (by omega) R2.out.2.1).mono ?_
  rintro e X3 ⟨v2, rfl, h2, hb⟩
  have V2 := hide (And.intro (V1.out.1.keep (Keep5.of_below hb)) (And.intro (V1.out.2.keep (Keep5.of_below hb)) h2))
  have B3 : Hid (Below w.heap.size w X3) := B2.out.trans (hb.mono B2.out.size)
  clear h2 hb
  go_wp2_with fail
  refine (clone_arg X3 (R4.out.later B3.out).1 (by omega) R4.out.2.1).mono ?_
  rintro e X4 ⟨v4, rfl, h4, hb⟩
  have S4 : Hid (St w X4 v0 v1 v2 v4 (if a0.isNone then none else some s0) (if a1.isNone then none else some s1) (if a2.isNone then none else some s2) (if a4.isNone then none else some s4)) :=
    ⟨V2.out.1.keep (Keep5.of_below hb), V2.out.2.1.keep (Keep5.of_below hb), V2.out.2.2.keep (Keep5.of_below hb), h4, B3.out.trans (hb.mono B3.out.size)⟩
  have K0 := hide (bts_if R0.out)
  have K2 := hide (bts_if R2.out)
  clear h4 hb
  clear V0 V1 V2 B0 B1 B2 B3
  generalize (if a0.isNone then none else some s0) = l0 at S4 K0
  generalize (if a1.isNone then none else some s1) = l1 at S4
  generalize (if a2.isNone then none else some s2) = l2 at S4 K2
  generalize (if a4.isNone then none else some s4) = l4 at S4
  have KN : Hid (bts l0 ≠ bts l2) := by rw [Hid, K0.out, K2.out]; exact HN.out
  clear K0 K2
  go_wp2_with fail
  -- the database
  refine (newDB_any X4).mono ?_
  rintro e X5 ⟨rfl, hd, hb⟩
  have S5 := hide (S4.out.below hb)
  have D5 := hide hd
  have HB : Hid (w.heap.size ≤ X4.heap.size) := S4.out.2.2.2.2.size
  clear hd hb S4
  generalize X4.heap.size = B at D5 HB ⊢
  generalize B + 1 = db at D5 ⊢
  go_wp2_with fail
  refine (clone_bv X5 S5.out.1).mono ?_
  rintro e X6 ⟨k6, rfl, h6, hb⟩
  have S6 := hide (S5.out.below hb)
  have D6 := hide (D5.out.later hb)
  have W6 := hide h6
  clear h6 hb S5 D5
  go_wp2_with fail
  refine (clone_bv X6 S6.out.2.1).mono ?_
  rintro e X7 ⟨k7, rfl, h7, hb⟩
  have S7 := hide (S6.out.below hb)
  have D7 := hide (D6.out.later hb)
  have W7 := hide (And.intro (W6.out.keep (Keep5.of_below hb)) h7)
  clear h7 hb S6 D6 W6
  go_wp2_with fail
  refine (set_plain D7.out (by omega) W7.out.1 W7.out.2 (by simp)).mono ?_
  rintro e X8 ⟨rfl, b8, hd, hf⟩
  have S8 := hide (S7.out.fr hf HB.out)
  have D8 : Hid (DBI B 1 X8 db B (.slice none 0 0) (upd (fun _ => none) (bts l0) ⟨b8, l1, false, 0⟩) []) := hd
  clear hd hf S7 D7 W7
  go_wp2_with fail
  refine (clone_bv X8 S8.out.2.2.1).mono ?_
  rintro e X9 ⟨k9, rfl, h9, hb⟩
  have S9 := hide (S8.out.below hb)
  have D9 := hide (D8.out.later hb)
  have W9 := hide h9
  clear h9 hb S8 D8
  go_wp2_with fail
  refine (putSet_any D9.out (by omega) W9.out (by rw [upd_other _ _ (Ne.symm KN.out)]) m HM.out).mono ?_
  rintro e X10 ⟨rfl, b10, hd, hf⟩
  have S10 := hide (S9.out.fr hf HB.out)
  have D10 := hide hd
  clear hd hf S9 D9 W9
  go_wp2_with fail
  refine (get_coll D10.out S10.out.2.2.1 (upd_same _ _ _) rfl).mono ?_
  rintro e _ ⟨rfl, n1, rfl⟩
  have S11 := hide (S10.out.drewN n1)
  have D11 := hide (D10.out.drewN n1)
  clear S10 D10
  generalize X10.drewN n1 = X11 at S11 D11 ⊢
  go_wp2_with fail
  refine (kind_at (x := 3) D11.out S11.out.2.2.1 (upd_same _ _ _) rfl).mono ?_
  rintro e _ ⟨rfl, n2, rfl⟩
  have S12 := hide (S11.out.drewN n2)
  have D12 := hide (D11.out.drewN n2)
  clear S11 D11
  generalize X11.drewN n2 = X12 at S12 D12 ⊢
  go_wp2_with fail
  refine (get_str D12.out S12.out.1 ((upd_other _ _ KN.out).trans (upd_same _ _ _)) rfl).mono ?_
  rintro e _ ⟨g1, rfl, hg, n3, rfl⟩
  have S13 := hide (S12.out.drewN n3)
  have D13 := hide (D12.out.drewN n3)
  have G13 : Hid (BV (X12.drewN n3) g1 l1) := hg
  clear S12 D12 hg
  generalize X12.drewN n3 = X13 at S13 D13 G13 ⊢
  go_wp2_with fail
  refine (clone_bv X13 S13.out.2.2.1).mono ?_
  rintro e X14 ⟨k14, rfl, h14, hb⟩
  have S14 := hide (S13.out.below hb)
  have D14 := hide (D13.out.later hb)
  have G14 := hide (G13.out.keep (Keep5.of_below hb))
  have W14 := hide h14
  clear h14 hb S13 D13 G13
  go_wp2_with fail
  refine (clone_bv X14 S14.out.2.2.2.1).mono ?_
  rintro e X15 ⟨k15, rfl, h15, hb⟩
  have S15 := hide (S14.out.below hb)
  have D15 := hide (D14.out.later hb)
  have G15 := hide (G14.out.keep (Keep5.of_below hb))
  have W15 := hide (And.intro (W14.out.keep (Keep5.of_below hb)) h15)
  clear h15 hb S14 D14 G14 W14
  go_wp2_with fail
  refine (set_plain D15.out (by omega) W15.out.1 W15.out.2 (by simp)).mono ?_
  rintro e X16 ⟨rfl, b16, hd, hf⟩
  have S16 := hide (S15.out.fr hf HB.out)
  have G16 := hide (G15.out.keep hf.2)
  have D16 := hide hd
  clear hd hf S15 D15 G15 W15
  go_wp2_with fail
  refine (get_str D16.out S16.out.2.2.1 (upd_same _ _ _) rfl).mono ?_
  rintro e _ ⟨g2, rfl, hg, n4, rfl⟩
  have S17 := hide (S16.out.drewN n4)
  have D17 := hide (D16.out.drewN n4)
  have G17 : Hid (BV (X16.drewN n4) g1 l1 ∧ BV (X16.drewN n4) g2 l4) := ⟨G16.out, hg⟩
  clear S16 D16 G16 hg
  generalize X16.drewN n4 = X17 at S17 D17 G17 ⊢
  go_wp2_with fail
  refine (kind_at (x := 0) D17.out S17.out.2.2.1 (upd_same _ _ _) rfl).mono ?_
  rintro e _ ⟨rfl, n5, rfl⟩
  have S18 := hide (S17.out.drewN n5)
  have D18 := hide (D17.out.drewN n5)
  have G18 : Hid (BV (X17.drewN n5) g1 l1 ∧ BV (X17.drewN n5) g2 l4) := G17.out
  clear S17 D17 G17
  generalize X17.drewN n5 = X18 at S18 D18 G18 ⊢
  go_wp2_with fail
  refine (get_str D18.out S18.out.1 ((upd_other _ _ KN.out).trans ((upd_other _ _ KN.out).trans (upd_same _ _ _))) rfl).mono ?_
  rintro e _ ⟨g3, rfl, hg, n6, rfl⟩
  have S19 := hide (S18.out.drewN n6)
  have G19 : Hid (BV (X18.drewN n6) g1 l1 ∧ BV (X18.drewN n6) g2 l4 ∧ BV (X18.drewN n6) g3 l1) := ⟨G18.out.1, G18.out.2, hg⟩
  clear S18 D18 G18 hg
  generalize X18.drewN n6 = X19 at S19 G19 ⊢
  have hq := fun (w : World) (a : Option Addr) (n c : Nat) => Lib.run_eql_slice_nil (P := Try.prog) w 22 5 a n c 0 0 Try.underlying22
  go_wp2_with fail
  refine (sameValue_true X19 G19.out.1 S19.out.2.1).mono ?_
  rintro e _ ⟨rfl, n7, rfl⟩
  go_wp2_with fail
  refine (sameValue_true _ (show BV (X19.drewN n7) g2 l4 from G19.out.2.1) S19.out.2.2.2.1).mono ?_
  rintro e _ ⟨rfl, n8, rfl⟩
  go_wp2_with fail
  refine (sameValue_true _ (show BV (X19.drewN (n7 + n8)) g3 l1 from G19.out.2.2) S19.out.2.1).mono ?_
  rintro e _ ⟨rfl, n9, rfl⟩
  go_wp2_with fail
  go_ret
  exact ⟨rfl, S19.out.2.2.2.2.trans ⟨rfl, rfl, rfl, Nat.le_refl _, fun _ _ => rfl⟩⟩

set_option maxRecDepth 20000 in
set_option maxHeartbeats 2000000 in
theorem grc_early (a0 a1 a2 a4 : Option Addr) (n0 n1 n2 n4 : Nat) (c0 c1 c2 c4 : Nat) (m : ByteArray) (w : World) (h0 : n0 ≤ maxLen) (h1 : n1 ≤ maxLen) (h2 : n2 ≤ maxLen) (h3 : m.size ≤ maxLen) (h4 : n4 ≤ maxLen)
    (hl : ¬ (n0 ≤ 65536 ∧ n1 ≤ 65536 ∧ n2 ≤ 65536 ∧ m.size ≤ 65536 ∧ n4 ≤ 65536) ∨ ¬ n0 + n1 + n2 + m.size + n4 ≤ 1048576) :
    Calls Try.prog 3 #[.slice a0 n0 c0, .slice a1 n1 c1, .slice a2 n2 c2, .string m, .slice a4 n4 c4] w fun e w' => e = .returned (.bool true) ∧ w = w' := by
  have H8 := hide (zzb8 a0 a1 a2 a4 n0 n1 n2 n4 c0 c1 c2 c4 m w h0 h1 h2 h3 h4)
  have HL := hide hl
  clear h0 h1 h2 h3 h4 hl
  by_cases q0 : n0 ≤ 65536
  · by_cases q1 : n1 ≤ 65536
    · by_cases q2 : n2 ≤ 65536
      · by_cases q3 : m.size ≤ 65536
        · by_cases q4 : n4 ≤ 65536
          · go_enter Try.func3, Try.ntmps3
            go_wp2_with fail
            refine H8.out.mono ?_
            rintro e w' ⟨rfl, b, rfl, hb⟩
            cases b
            · go_wp2_with fail
              go_ret
              exact ⟨rfl, rfl⟩
            · have h1 := hb rfl
              exact absurd HL.out (by omega)
          · go_enter Try.func3, Try.ntmps3
            go_wp2_with fail
            refine H8.out.mono ?_
            rintro e w' ⟨rfl, b, rfl, hb⟩
            clear hb
            cases b <;> (go_wp2_with fail; go_ret; exact ⟨rfl, rfl⟩)
        · go_enter Try.func3, Try.ntmps3
          go_wp2_with fail
          refine H8.out.mono ?_
          rintro e w' ⟨rfl, b, rfl, hb⟩
          clear hb
          cases b <;> (go_wp2_with fail; go_ret; exact ⟨rfl, rfl⟩)
      · go_enter Try.func3, Try.ntmps3
        go_wp2_with fail
        refine H8.out.mono ?_
        rintro e w' ⟨rfl, b, rfl, hb⟩
        clear hb
        cases b <;> (go_wp2_with fail; go_ret; exact ⟨rfl, rfl⟩)
    · go_enter Try.func3, Try.ntmps3
      go_wp2_with fail
      refine H8.out.mono ?_
      rintro e w' ⟨rfl, b, rfl, hb⟩
      clear hb
      cases b <;> (go_wp2_with fail; go_ret; exact ⟨rfl, rfl⟩)
  · go_enter Try.func3, Try.ntmps3
    go_wp2_with fail
    refine H8.out.mono ?_
    rintro e w' ⟨rfl, b, rfl, hb⟩
    clear hb
    cases b <;> (go_wp2_with fail; go_ret; exact ⟨rfl, rfl⟩)

set_option maxRecDepth 20000 in
set_option maxHeartbeats 2000000 in
theorem grc_same (a0 a1 a2 a4 : Option Addr) (s0 : List UInt8) (n1 n4 : Nat) (c0 c1 c2 c4 : Nat) (m : ByteArray) (w : World) (r0 : Came w a0 s0 c0) (h1 : n1 ≤ maxLen) (r2 : Came w a2 s0 c2) (h3 : m.size ≤ maxLen) (h4 : n4 ≤ maxLen)
    (q0 : s0.length ≤ 65536) (q1 : n1 ≤ 65536) (q3 : m.size ≤ 65536) (q4 : n4 ≤ 65536) :
    Calls Try.prog 3 #[.slice a0 s0.length c0, .slice a1 n1 c1, .slice a2 s0.length c2, .string m, .slice a4 n4 c4] w fun e w' => e = .returned (.bool true) ∧ Below w.heap.size w w' := by
  have H8 := hide (zzb8 a0 a1 a2 a4 s0.length n1 s0.length n4 c0 c1 c2 c4 m w r0.2.2 h1 r2.2.2 h3 h4)
  have R0 := hide r0
  have R2 := hide r2
  clear r0 r2 h1 h3 h4
  go_enter Try.func3, Try.ntmps3
  go_wp2_with fail
  refine H8.out.mono ?_
  rintro e w' ⟨rfl, b, rfl, hb⟩
  clear hb
  cases b
  · go_wp2_with fail
    go_ret
    exact ⟨rfl, Below.refl _ _⟩
  go_wp2_with fail
  refine (bytesEq_any a0 a2 s0 s0 c0 c2 _ R0.out.1 R2.out.1 R0.out.2.2 R2.out.2.2).mono ?_
  rintro e w' ⟨rfl, n, rfl⟩
  rw [decide_eq_true rfl]
  go_wp2_with fail
  go_ret
  exact ⟨rfl, (Fr.drewN _ _ _).1⟩

theorem grc_any (a0 a1 a2 a4 : Option Addr) (s0 s1 s2 s4 : List UInt8) (c0 c1 c2 c4 : Nat) (m : ByteArray) (w : World) (r0 : Came w a0 s0 c0) (r1 : Came w a1 s1 c1) (r2 : Came w a2 s2 c2) (hm : m.size ≤ maxLen) (r4 : Came w a4 s4 c4) :
    Calls Try.prog 3 #[.slice a0 s0.length c0, .slice a1 s1.length c1, .slice a2 s2.length c2, .string m, .slice a4 s4.length c4] w fun e w' => e = .returned (.bool true) ∧ Below w.heap.size w w' := by
  by_cases hl : ¬ (s0.length ≤ 65536 ∧ s1.length ≤ 65536 ∧ s2.length ≤ 65536 ∧ m.size ≤ 65536 ∧ s4.length ≤ 65536) ∨ ¬ s0.length + s1.length + s2.length + m.size + s4.length ≤ 1048576
  · refine (grc_early a0 a1 a2 a4 _ _ _ _ c0 c1 c2 c4 m w r0.2.2 r1.2.2 r2.2.2 hm r4.2.2 hl).mono ?_
    rintro e w' ⟨rfl, rfl⟩
    exact ⟨rfl, Below.refl _ _⟩
  · have hl' : (s0.length ≤ 65536 ∧ s1.length ≤ 65536 ∧ s2.length ≤ 65536 ∧ m.size ≤ 65536 ∧ s4.length ≤ 65536) ∧ s0.length + s1.length + s2.length + m.size + s4.length ≤ 1048576 := by omega
    obtain ⟨⟨q0, q1, q2, q3, q4⟩, hs⟩ := hl'
    by_cases he : s0 = s2
    · subst he
      exact grc_same a0 a1 a2 a4 s0 _ _ c0 c1 c2 c4 m w r0 r1.2.2 r2 hm r4.2.2 q0 q1 q3 q4
    · exact grc_core a0 a1 a2 a4 s0 s1 s2 s4 c0 c1 c2 c4 m w r0 r1 r2 hm r4 hs q0 q1 q2 q3 q4 he
end Go.Proofs.Qxb6615097a
