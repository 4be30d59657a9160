/- The walk of FnNeedsSignInSplitsAtAnyCut. -/
import Derived.Test.Qxb6614736aFil
namespace Go.Proofs.Qxb6614736a
open Go.RowKit

theorem zzb7 (a : Option Addr) (n c : Nat) (k : Int) (w : World) (hn : n ≤ maxLen) :
    Calls Try.prog 7 #[.slice a n c, .int .i64 k] w fun e w' => e = .returned (.bool (decide (n ≤ 1048576))) ∧ w = w' := by
  unfold maxLen at hn
  by_cases h : n ≤ 1048576
  · rw [decide_eq_true h]
    go_enter Try.func7, Try.ntmps7
    go_wp2_with fail
    go_ret
    exact ⟨rfl, rfl⟩
  · rw [decide_eq_false h]
    go_enter Try.func7, Try.ntmps7
    go_wp2_with fail
    go_ret
    exact ⟨rfl, rfl⟩

theorem priv_cut (xs : List Bool) (k : Nat) : priv xs = (priv (xs.take k) || priv (xs.drop k)) := by
  unfold priv
  rw [← List.any_append, List.take_append_drop]

theorem RdP.take {w : World} {a : Option Addr} {xs : List Bool} (h : RdP w a xs) (k : Nat) : RdP w a (xs.take k) := fun i hi => by
  simp only [List.length_take] at hi
  obtain ⟨b, off, ha, hc⟩ := h i (by omega)
  exact ⟨b, off, ha, by rw [hc]; simp⟩

set_option maxRecDepth 20000 in
set_option maxHeartbeats 2000000 in
theorem cut_core (a : Option Addr) (xs : List Bool) (c : Nat) (k : Nat) (w : World) (h : RdP w a xs) (hc : xs.length ≤ c) (hn : xs.length ≤ 65536) (hk : k ≤ xs.length) :
    Calls Try.prog 3 #[.slice a xs.length c, .int .i64 k] w fun e w' => e = .returned (.bool true) ∧ Below w.heap.size w w' := by
  have HZ := hide (zzb7 a xs.length c k w (by unfold maxLen; omega))
  rw [decide_eq_true (by omega)] at HZ
  have HF := hide (file_any a xs c w h hn)
  have HR := hide h
  clear h
  go_enter Try.func3, Try.ntmps3
  go_wp2_with fail
  refine HZ.out.mono ?_
  rintro e w' ⟨rfl, rfl⟩
  have i1 : (0 : Int) ≤ (k : Int) := by omega
  have i2 : (k : Int) ≤ (xs.length : Int) := by omega
  go_wp2_with fail
  refine HF.out.mono ?_
  rintro e X1 ⟨fb1, rfl, hf1, hb1⟩
  have HB1 := hide hb1
  have HN1 := hide (needs_any X1 hf1 hn)
  clear hf1 hb1 HF HZ
  go_wp2_with fail
  refine HN1.out.mono ?_
  rintro e X2 ⟨rfl, hb2⟩
  have HB2 : Hid (Below w.heap.size w X2) := HB1.out.trans (hb2.mono HB1.out.size)
  have HR2 : Hid (RdP X2 a xs) := HR.out.later HB2.out
  clear hb2 HN1 HB1
  generalize hp : priv xs = p0
  have HP := hide hp
  clear hp
  have hlk : (xs.take k).length = k := by rw [List.length_take]; omega
  have HF2 := hide (file_any a (xs.take k) c X2 (HR2.out.take k) (by omega))
  rw [hlk] at HF2
  go_wp2_with fail
  refine HF2.out.mono ?_
  rintro e X3 ⟨fb2, rfl, hf3, hb3⟩
  have HB3 : Hid (Below w.heap.size w X3) := HB2.out.trans (hb3.mono HB2.out.size)
  have HN3 := hide (needs_any X3 hf3 (by omega))
  clear hf3 hb3 HF2 HB2 HR2
  go_wp2_with fail
  refine HN3.out.mono ?_
  rintro e X4 ⟨rfl, hb4⟩
  have HB4 : Hid (Below w.heap.size w X4) := HB3.out.trans (hb4.mono HB3.out.size)
  have HR4 : Hid (RdP X4 a xs) := HR.out.later HB4.out
  clear hb4 HN3 HB3
  generalize hp1 : priv (xs.take k) = p1
  have HP1 := hide hp1
  clear hp1
  have hld : (xs.drop k).length = xs.length - k := List.length_drop
  by_cases hck : c = k
  · subst hck
    have HF4 := hide (file_any a (xs.drop c) 0 X4 (fun i hi => by omega) (by omega))
    rw [hld, show xs.length - c = 0 from by omega] at HF4
    go_wp2_with fail
    refine HF4.out.mono ?_
    rintro e X5 ⟨fb3, rfl, hf5, hb5⟩
    have HB5 : Hid (Below w.heap.size w X5) := HB4.out.trans (hb5.mono HB4.out.size)
    have HN5 := hide (needs_any X5 hf5 (by omega))
    clear hf5 hb5 HF4 HB4 HR4
    go_wp2_with fail
    refine HN5.out.mono ?_
    rintro e X6 ⟨rfl, hb6⟩
    have HB6 : Hid (Below w.heap.size w X6) := HB5.out.trans (hb6.mono HB5.out.size)
    have HR6 : Hid (RdP X6 a xs) := HR.out.later HB6.out
    clear hb6 HN5 HB5
    have HCUT := hide (priv_cut xs c)
    have HS := hide (somePriv a xs c X6 HR6.out (by omega))
    have HS1 := hide (somePriv a (xs.take c) c X6 (HR6.out.take c) (by omega))
    rw [HP.out] at HS HCUT
    rw [hlk, HP1.out] at HS1
    rw [HP1.out] at HCUT
    generalize priv (xs.drop c) = p2 at HCUT ⊢
    obtain rfl : p0 = (p1 || p2) := HCUT.out
    clear HCUT HP HP1 HR6 hlk hld
    cases p1 <;> cases p2 <;>
      (go_wp2_with fail
       refine HS.out.mono ?_
       rintro e _ ⟨rfl, rfl⟩
       go_wp2_with fail
       refine HS1.out.mono ?_
       rintro e _ ⟨rfl, rfl⟩
       go_wp2_with fail
       go_ret
       exact ⟨rfl, HB6.out⟩)
  · have HF4 := hide (file_any (a.map fun x => x.add k) (xs.drop k) (c - k) X4 (fun i hi => by
      obtain ⟨b, off, ha, hc⟩ := HR4.out (k + i) (by omega)
      exact ⟨b, off + k, by rw [ha]; simp [Addr.add_mid], by rw [Nat.add_assoc, hc]; simp⟩) (by omega))
    rw [hld] at HF4
    go_wp2_with fail
    refine HF4.out.mono ?_
    rintro e X5 ⟨fb3, rfl, hf5, hb5⟩
    have HB5 : Hid (Below w.heap.size w X5) := HB4.out.trans (hb5.mono HB4.out.size)
    have HN5 := hide (needs_any X5 hf5 (by omega))
    clear hf5 hb5 HF4 HB4 HR4
    go_wp2_with fail
    refine HN5.out.mono ?_
    rintro e X6 ⟨rfl, hb6⟩
    have HB6 : Hid (Below w.heap.size w X6) := HB5.out.trans (hb6.mono HB5.out.size)
    have HR6 : Hid (RdP X6 a xs) := HR.out.later HB6.out
    clear hb6 HN5 HB5
    have HCUT := hide (priv_cut xs k)
    have HS := hide (somePriv a xs c X6 HR6.out (by omega))
    have HS1 := hide (somePriv a (xs.take k) c X6 (HR6.out.take k) (by omega))
    rw [HP.out] at HS HCUT
    rw [hlk, HP1.out] at HS1
    rw [HP1.out] at HCUT
    generalize priv (xs.drop k) = p2 at HCUT ⊢
    obtain rfl : p0 = (p1 || p2) := HCUT.out
    clear HCUT HP HP1 HR6 hlk hld
    cases p1 <;> cases p2 <;>
      (go_wp2_with fail
       refine HS.out.mono ?_
       rintro e _ ⟨rfl, rfl⟩
       go_wp2_with fail
       refine HS1.out.mono ?_
       rintro e _ ⟨rfl, rfl⟩
       go_wp2_with fail
       go_ret
       exact ⟨rfl, HB6.out⟩)

set_option maxRecDepth 20000 in
theorem cut_early (a : Option Addr) (n c : Nat) (k : Int) (w : World) (hn : n ≤ maxLen) (h : ¬ (n ≤ 65536 ∧ 0 ≤ k ∧ k ≤ n)) :
    Calls Try.prog 3 #[.slice a n c, .int .i64 k] w fun e w' => e = .returned (.bool true) ∧ Below w.heap.size w w' := by
  have HZ := hide (zzb7 a n c k w hn)
  have HH := hide h
  clear h
  by_cases h0 : n ≤ 1048576
  · rw [decide_eq_true h0] at HZ
    by_cases h1 : n ≤ 65536
    · by_cases h2 : 0 ≤ k
      · have h3 : (n : Int) < k := by have := HH.out; omega
        go_enter Try.func3, Try.ntmps3
        go_wp2_with fail
        refine HZ.out.mono ?_
        rintro e w' ⟨rfl, rfl⟩
        go_wp2_with fail
        go_ret
        exact ⟨rfl, Below.refl _ _⟩
      · have h3 : k < 0 := by omega
        go_enter Try.func3, Try.ntmps3
        go_wp2_with fail
        refine HZ.out.mono ?_
        rintro e w' ⟨rfl, rfl⟩
        go_wp2_with fail
        go_ret
        exact ⟨rfl, Below.refl _ _⟩
    · go_enter Try.func3, Try.ntmps3
      go_wp2_with fail
      refine HZ.out.mono ?_
      rintro e w' ⟨rfl, rfl⟩
      go_wp2_with fail
      go_ret
      exact ⟨rfl, Below.refl _ _⟩
  · rw [decide_eq_false h0] at HZ
    go_enter Try.func3, Try.ntmps3
    go_wp2_with fail
    refine HZ.out.mono ?_
    rintro e w' ⟨rfl, rfl⟩
    go_wp2_with fail
    go_ret
    exact ⟨rfl, Below.refl _ _⟩

theorem cut_any (a : Option Addr) (xs : List Bool) (c : Nat) (k : Int) (w : World) (h : RdP w a xs) (hc : xs.length ≤ c) (hn : xs.length ≤ maxLen) :
    Calls Try.prog 3 #[.slice a xs.length c, .int .i64 k] w fun e w' => e = .returned (.bool true) ∧ Below w.heap.size w w' := by
  by_cases hh : xs.length ≤ 65536 ∧ 0 ≤ k ∧ k ≤ xs.length
  · obtain ⟨h1, h2, h3⟩ := hh
    obtain ⟨m, rfl⟩ := Int.eq_ofNat_of_zero_le h2
    exact cut_core a xs c m w h hc h1 (by omega)
  · exact cut_early a xs.length c k w hn hh
end Go.Proofs.Qxb6614736a
