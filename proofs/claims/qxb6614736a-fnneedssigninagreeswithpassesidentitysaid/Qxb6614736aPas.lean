/- The walk of FnNeedsSignInAgreesWithPassesIdentity. -/
import Derived.Test.Qxb6614736aAlo
namespace Go.Proofs.Qxb6614736a
open Go.RowKit

theorem zzb11 (a : Option Addr) (n c : Nat) (w : World) (hn : n ≤ maxLen) :
    Calls Try.prog 11 #[.slice a n c] w fun e w' => e = .returned (.bool (decide (n ≤ 1048576))) ∧ w = w' := by
  unfold maxLen at hn
  by_cases h : n ≤ 1048576
  · rw [decide_eq_true h]
    go_enter Try.func11, Try.ntmps11
    go_wp2_with fail
    go_ret
    exact ⟨rfl, rfl⟩
  · rw [decide_eq_false h]
    go_enter Try.func11, Try.ntmps11
    go_wp2_with fail
    go_ret
    exact ⟨rfl, rfl⟩

/-- 'PassesIdentity' of a route that sets nothing but whether it is public. -/
theorem passes_any {fb : Nat} {flag : Bool} {xs : List Bool} (y : Bool) (w : World) (h : FileAt w fb flag xs) :
    Calls Try.prog 12 #[.pointer (some ⟨fb, 0, none⟩), .agg (rcells y).toArray] w fun e w' => e = .returned (.bool (!y && flag)) ∧ Below w.heap.size w w' := by
  have q1 : (w.alloc (.cells (rcells y).toArray 42)).cell? ⟨w.heap.size, 22, none⟩ = some (.bool y) := by rw [cell_new]; rfl
  have q2 : (w.alloc (.cells (rcells y).toArray 42)).cell? ⟨w.heap.size, 27, none⟩ = some (.pointer none) := by rw [cell_new]; rfl
  have q3 : (w.alloc (.cells (rcells y).toArray 42)).cell? ⟨fb, 13, none⟩ = some (.bool flag) := by rw [World.cell?_alloc_lt _ _ _ h.lt]; exact h.flag
  clear h
  cases y
  · go_enter Try.func12, Try.ntmps12
    go_wp2_with fail
    go_ret
    exact ⟨by simp, (Below.refl _ _).alloc (Nat.le_refl _) _⟩
  · go_enter Try.func12, Try.ntmps12
    go_wp2_with fail
    go_ret
    exact ⟨rfl, (Below.refl _ _).alloc (Nat.le_refl _) _⟩

theorem FileAt.set {w : World} {fb : Nat} {flag : Bool} {xs : List Bool} (h : FileAt w fb flag xs) (f : Bool) : FileAt (w.setCell ⟨fb, 13, none⟩ (.bool f)) fb f xs := by
  obtain ⟨g, r1, r2, r3⟩ := h.routes
  refine ⟨by simpa [World.setCell] using h.lt, World.cell?_setCell_same _ _ _ h.flag, by rw [World.frozen?_setCell]; exact h.thaw, g, ?_, by simpa [World.setCell] using r2, fun i hi j v hv => ?_⟩
  · rw [World.cell?_setCell_other _ _ _ _ (by intro e; simp at e)]
    exact r1
  · have hg : g ≠ fb := by
      rintro rfl
      have h1 := r3 0 (by omega) 13 (.pointer none) rfl
      rw [show 0 * 28 + 13 = 13 from rfl, h.flag] at h1
      cases h1
    rw [World.cell?_setCell_other _ _ _ _ (by intro e; simp only [Addr.mk.injEq] at e; exact hg e.1.symm)]
    exact r3 i hi j v hv

/-- What stands in the loop. -/
def PasR (w wr : World) (f1 f2 : Nat) (a : Option Addr) (xs : List Bool) : Prop := FileAt wr f1 true xs ∧ FileAt wr f2 false xs ∧ RdP wr a xs ∧ Below w.heap.size w wr
theorem PasR.later {w wr X : World} {f1 f2 : Nat} {a : Option Addr} {xs : List Bool} (h : PasR w wr f1 f2 a xs) (hb : Below wr.heap.size wr X) : PasR w X f1 f2 a xs :=
  ⟨h.1.later hb, h.2.1.later hb, h.2.2.1.later hb, h.2.2.2.trans (hb.mono h.2.2.2.size)⟩

theorem priv_snoc (xs : List Bool) (k : Nat) (h : k < xs.length) : priv (xs.take (k + 1)) = (priv (xs.take k) || !xs[k]) := by
  rw [List.take_succ_eq_append_getElem h, priv, List.any_append]
  simp [priv]

/-- What stands within a round: the route r lies at block nb. -/
def PasS (w wr : World) (f1 f2 : Nat) (a : Option Addr) (xs : List Bool) (nb : Nat) (y : Bool) : Prop := PasR w wr f1 f2 a xs ∧ wr.rangeAt nb 0 (rcells y) ∧ nb < wr.heap.size
theorem PasS.later {w wr X : World} {f1 f2 : Nat} {a : Option Addr} {xs : List Bool} {nb : Nat} {y : Bool} (h : PasS w wr f1 f2 a xs nb y) (hb : Below wr.heap.size wr X) : PasS w X f1 f2 a xs nb y :=
  ⟨h.1.later hb, fun j v hv => (hb.cell h.2.2).trans (h.2.1 j v hv), Nat.lt_of_lt_of_le h.2.2 hb.size⟩

theorem PasS.rng {w wr : World} {f1 f2 : Nat} {a : Option Addr} {xs : List Bool} {nb : Nat} {y : Bool} (h : PasS w wr f1 f2 a xs nb y) : wr.rangeAt nb 0 (rcells y) := h.2.1
theorem pasS_of {w wr X Y : World} {f1 f2 : Nat} {a : Option Addr} {xs : List Bool} {y : Bool} (h : PasR w wr f1 f2 a xs) (hb : Below wr.heap.size wr X) (hl : wr.heap.size < X.heap.size) (hb' : Below wr.heap.size X Y) (hr : Y.rangeAt wr.heap.size 0 (rcells y)) (hs : Y.heap.size = X.heap.size) :
    PasS w Y f1 f2 a xs wr.heap.size y := ⟨h.later (hb.trans hb'), hr, by rw [hs]; exact hl⟩

set_option maxRecDepth 20000 in
set_option maxHeartbeats 400000 in
theorem pas_core (a : Option Addr) (xs : List Bool) (c : Nat) (w : World) (h : RdP w a xs) (hn : xs.length ≤ 65536) :
    Calls Try.prog 4 #[.slice a xs.length c] w fun e w' => e = .returned (.bool true) ∧ Below w.heap.size w w' := by
  have HZ := hide (zzb11 a xs.length c w (by unfold maxLen; omega))
  rw [decide_eq_true (by omega)] at HZ
  have HF := hide (file_low a xs c w h hn)
  have HR := hide h
  clear h
  go_enter Try.func4, Try.ntmps4
  go_wp2_with fail
  refine HZ.out.mono ?_
  rintro e w' ⟨rfl, rfl⟩
  go_wp2_with fail
  refine HF.out.mono ?_
  rintro e X1 ⟨f1, rfl, hf1, hb1, hlow⟩
  have HF1 := hide (hf1.set true)
  have q1 := hf1.flag
  have q2 := hf1.thaw
  have HB1 : Hid (Below w.heap.size w (X1.setCell ⟨f1, 13, none⟩ (.bool true))) := hb1.setCell (by exact hlow) _
  clear hf1 hb1 HF HZ hlow
  go_wp2_with fail
  clear q1 q2
  generalize X1.setCell ⟨f1, 13, none⟩ (.bool true) = X2 at HF1 HB1 ⊢
  have HR2 : Hid (RdP X2 a xs) := HR.out.later HB1.out
  refine (file_any a xs c X2 HR2.out hn).mono ?_
  rintro e X3 ⟨f2, rfl, hf2, hb2⟩
  have P3 : Hid (PasR w X3 f1 f2 a xs) := ⟨HF1.out.later hb2, hf2, HR2.out.later hb2, HB1.out.trans (hb2.mono HB1.out.size)⟩
  clear hf2 hb2 HF1 HB1 HR2 HR
  go_wp2_with fail
  refine (needs_any X3 P3.out.1 hn).mono ?_
  rintro e X4 ⟨rfl, hb4⟩
  have P4 := hide (P3.out.later hb4)
  clear hb4 P3
  go_wp2_with fail
  go_loopw [6, 7, 8] (fun p q i wr => ∃ k : Nat, k ≤ xs.length ∧ i = .int .i64 k ∧ p = .bool (priv (xs.take k)) ∧ q = .bool false ∧ Hid (PasR w wr f1 f2 a xs)) (fun _ _ i _ => xs.length - (intOf i).toNat)
  case atStart => exact ⟨0, Nat.zero_le _, rfl, rfl, rfl, P4⟩
  case round =>
    obtain ⟨k, hk, rfl, rfl, rfl, hP⟩ := hrel
    by_cases hlt : k < xs.length
    · obtain ⟨b, off, ha, q0⟩ := hP.out.2.2.1 k hlt
      subst ha
      have HS := hide (priv_snoc xs k hlt)
      generalize xs[k] = y at q0 HS
      have i1 : (0 : Int) ≤ (k : Int) := by omega
      have i2 : (k : Int) < (xs.length : Int) := by omega
      generalize hpk : priv (xs.take k) = pk at HS
      clear hpk
      go_wp2_with (first
        | (with_reducible (show wpList _ _ _ (Oper.mk _ (Op.alloc 42) _ _ _ _ :: _) _ _); refine wpList_alloc42 rfl rfl ?_; intro X4' hb4 ht4 hl4; have H4 := hide (And.intro hb4 (And.intro ht4 hl4)); clear hb4 ht4 hl4)
        | (with_reducible (show wpList _ _ _ (Oper.mk _ (Op.store 42 _ _) _ _ _ _ :: _) _ _); refine wpList_store42 rfl _ _ rfl wr.heap.size y rfl rfl H4.out.2.1 ?_; intro X5 hb5 hr5 hl5; have HN := hide (pasS_of hP.out H4.out.1 H4.out.2.2 hb5 hr5 hl5); clear hb5 hr5 hl5 hP q0 H4)
        | (with_reducible (show wpList _ _ _ (Oper.mk _ (Op.load 42 _) _ _ _ _ :: _) _ _); refine wpList_load42 rfl _ rfl wr.heap.size y rfl (PasS.rng HN.out) ?_))
      refine (passes_any y X5 HN.out.1.1).mono ?_
      rintro e X6 ⟨rfl, hb6⟩
      have HN6 := hide (HN.out.later hb6)
      clear hb6 HN
      cases y
      · go_wp2_with (with_reducible (show wpList _ _ _ (Oper.mk _ (Op.load 42 _) _ _ _ _ :: _) _ _); refine wpList_load42 rfl _ rfl wr.heap.size false rfl (PasS.rng HN6.out) ?_)
        refine (passes_any false X6 HN6.out.1.2.1).mono ?_
        rintro e X7 ⟨rfl, hb7⟩
        have HN7 := hide (HN6.out.later hb7)
        clear hb7 HN6
        go_wp2_with fail
        go_roundw
        case rel => exact ⟨k + 1, by omega, by go_num, by rw [HS.out]; simp, rfl, HN7.out.1⟩
        case measure => simp [intOf]; omega
      · go_wp2_with (with_reducible (show wpList _ _ _ (Oper.mk _ (Op.load 42 _) _ _ _ _ :: _) _ _); refine wpList_load42 rfl _ rfl wr.heap.size true rfl (PasS.rng HN6.out) ?_)
        refine (passes_any true X6 HN6.out.1.2.1).mono ?_
        rintro e X7 ⟨rfl, hb7⟩
        have HN7 := hide (HN6.out.later hb7)
        clear hb7 HN6
        go_wp2_with fail
        go_roundw
        case rel => exact ⟨k + 1, by omega, by go_num, by rw [HS.out]; simp, rfl, HN7.out.1⟩
        case measure => simp [intOf]; omega
    · have hkk : k = xs.length := by omega
      have HPK : Hid (priv (xs.take k) = priv xs) := by rw [Hid, hkk, List.take_length]
      have HSP := hide (somePriv a xs c wr hP.out.2.2.1 (by omega))
      have HNE := hide (needs_any wr hP.out.2.1 hn)
      rw [HPK.out]
      generalize priv xs = p0 at HSP HNE ⊢
      clear hkk HPK
      cases p0 <;>
        (go_wp2_with fail
         refine HSP.out.mono ?_
         rintro e _ ⟨rfl, rfl⟩
         go_wp2_with fail
         refine HNE.out.mono ?_
         rintro e X9 ⟨rfl, hb9⟩
         have HB9 := hide (hP.out.2.2.2.trans (hb9.mono hP.out.2.2.2.size))
         clear hb9
         go_wp2_with fail
         go_ret
         exact ⟨rfl, HB9.out⟩)

set_option maxRecDepth 20000 in
theorem pas_early (a : Option Addr) (n c : Nat) (w : World) (hn : n ≤ maxLen) (h : ¬ n ≤ 65536) :
    Calls Try.prog 4 #[.slice a n c] w fun e w' => e = .returned (.bool true) ∧ Below w.heap.size w w' := by
  have HZ := hide (zzb11 a n c w hn)
  by_cases h0 : n ≤ 1048576
  · rw [decide_eq_true h0] at HZ
    go_enter Try.func4, Try.ntmps4
    go_wp2_with fail
    refine HZ.out.mono ?_
    rintro e w' ⟨rfl, rfl⟩
    go_wp2_with fail
    go_ret
    exact ⟨rfl, Below.refl _ _⟩
  · rw [decide_eq_false h0] at HZ
    go_enter Try.func4, Try.ntmps4
    go_wp2_with fail
    refine HZ.out.mono ?_
    rintro e w' ⟨rfl, rfl⟩
    go_wp2_with fail
    go_ret
    exact ⟨rfl, Below.refl _ _⟩

theorem pas_any (a : Option Addr) (xs : List Bool) (c : Nat) (w : World) (h : RdP w a xs) (hn : xs.length ≤ maxLen) :
    Calls Try.prog 4 #[.slice a xs.length c] w fun e w' => e = .returned (.bool true) ∧ Below w.heap.size w w' := by
  by_cases hh : xs.length ≤ 65536
  · exact pas_core a xs c w h hh
  · exact pas_early a xs.length c w hn hh
end Go.Proofs.Qxb6614736a
