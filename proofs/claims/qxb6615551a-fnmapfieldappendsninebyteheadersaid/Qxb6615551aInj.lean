/- The walk of FnMapFieldHeaderInjective. -/
import Derived.Test.Qxb6615551aZz
namespace Go.Proofs.Qxb6615551a
open Go.RowKit

theorem hdr_len (id key val n : Int) : (hdr id key val n).length = 9 := rfl

/-- Two headers are the same just where their parts are. -/
theorem hdr_inj (i k v n i' k' v' n' : Int) (h0 : -32768 ≤ i) (h1 : i ≤ 32767) (h2 : -32768 ≤ i') (h3 : i' ≤ 32767) :
    hdr i k v n = hdr i' k' v' n' ↔ i = i' ∧ k = k' ∧ v = v' ∧ IntKind.i32.wrap n = IntKind.i32.wrap n' := by
  rw [IntKind.wrap_i32, IntKind.wrap_i32]
  simp only [hdr, be16, be32, List.cons_append, List.nil_append, List.cons.injEq, true_and, and_true]
  constructor
  · rintro ⟨a, b, c, d, e, f, g, h⟩
    exact ⟨by omega, c, d, by omega⟩
  · rintro ⟨rfl, rfl, rfl, h⟩
    exact ⟨rfl, rfl, rfl, rfl, by omega, by omega, by omega, by omega⟩

theorem Fx.below {w w' : World} {S : Nat → Prop} (h : Fx w w' S) (hS : ∀ k, k < w.heap.size → ¬ S k) : Below w.heap.size w w' := ⟨h.os, h.tape, h.output, h.size, fun k hk => h.block k hk (hS k hk)⟩

/-- A row of bytes of the call's own, as it is read. -/
structure RdO (w : World) (g n cap : Nat) (xs : List Int) : Prop where
  len : xs.length = n
  cell : ∀ i (h : i < xs.length), w.cell? ⟨g, i, none⟩ = some (.int .u8 xs[i])

theorem Out.rd {B : Nat} {w w' : World} {v v' : Value} {ns' : List Int} (h : Out B w w' v v' ns') (hn : 0 < ns'.length) : ∃ g cap, v' = .slice (some ⟨g, 0, none⟩) ns'.length cap ∧ v'.ownBlock = some g ∧ RdO w' g ns'.length cap ns' := by
  obtain ⟨_, h2⟩ := h.row
  rcases h2 with ⟨_, h3⟩ | ⟨g, cap, cur, hv, _⟩
  · omega
  · refine ⟨g, cap, hv, by rw [hv]; rfl, rfl, fun i hi => ?_⟩
    have hr := h.row
    rw [hv] at hr
    rw [hr.cellAt i (by omega)]
    simp [bc, hi]

theorem RdO.later {w w' : World} {g n cap : Nat} {xs : List Int} (h : RdO w g n cap xs) (hb : w'.heap[g]? = w.heap[g]?) : RdO w' g n cap xs :=
  ⟨h.len, fun i hi => by have := h.cell i hi; simp only [World.cell?, hb] at this ⊢; exact this⟩

theorem zzMap_nil (id key val n : Int) (w : World) (hn1 : n ≤ 65536) :
    Calls Try.prog 13 #[.slice none 0 0, .int .i16 id, .int .u8 key, .int .u8 val, .int .i64 n] w fun e w' => ∃ g cap, e = .returned (.slice (some ⟨g, 0, none⟩) 9 cap) ∧ RdO w' g 9 cap (hdr id key val n) ∧ w.heap.size ≤ g ∧ g < w'.heap.size ∧ Below w.heap.size w w' := by
  refine (zzMap_any (B := w.heap.size) (ns := []) id key val n w (World.ownsRow_nil _ _ _ _) (by simp) (Nat.le_refl _) hn1).mono ?_
  rintro e w' ⟨v', rfl, ho⟩
  obtain ⟨g, cap, hv, hob, hr⟩ := ho.rd (by simp [hdr_len])
  obtain ⟨l1, l2⟩ := ho.row.lt _ hob
  subst hv
  exact ⟨g, cap, rfl, hr, l1, l2, ho.fx.below (fun k _ e => by cases e)⟩

set_option maxRecDepth 20000 in
set_option maxHeartbeats 2000000 in
theorem inj_core (a0 a1 a2 a3 a4 a5 a6 a7 : Int) (h0 : -32768 ≤ a0) (h1 : a0 ≤ 32767) (h2 : -32768 ≤ a4) (h3 : a4 ≤ 32767) (h4 : a3 ≤ 65536) (h5 : a7 ≤ 65536) (w : World) :
    Calls Try.prog 6 #[.int .i16 a0, .int .u8 a1, .int .u8 a2, .int .i64 a3, .int .i16 a4, .int .u8 a5, .int .u8 a6, .int .i64 a7] w fun e w' => e = .returned (.bool true) ∧ Below w.heap.size w w' := by
  have HI := hide (hdr_inj a0 a1 a2 a3 a4 a5 a6 a7 h0 h1 h2 h3)
  clear h0 h1 h2 h3
  go_enter Try.func6, Try.ntmps6
  go_wp2_with fail
  refine (zzMap_nil a0 a1 a2 a3 w h4).mono ?_
  rintro e w1 ⟨g1, cap1, rfl, hr1, l1, l1', hb1⟩
  have H1 := hide (And.intro hr1 (And.intro l1' hb1))
  clear hr1 l1 l1' hb1
  go_wp2_with fail
  refine (zzMap_nil a4 a5 a6 a7 w1 h5).mono ?_
  rintro e w2 ⟨g2, cap2, rfl, hr2, l2, l2', hb2⟩
  have R1 := hide (H1.out.1.later (hb2.block _ H1.out.2.1))
  have R2 := hide hr2
  have HB2 : Hid (Below w.heap.size w w2) := H1.out.2.2.trans (hb2.mono H1.out.2.2.size)
  have q1 : w2.cell? ⟨g1, 0, none⟩ = some (.int .u8 13) := R1.out.cell 0 (by simp [hdr_len])
  have q2 : w2.cell? ⟨g2, 0, none⟩ = some (.int .u8 13) := R2.out.cell 0 (by simp [hdr_len])
  clear hr2 l2 l2' hb2 H1
  have HC := hide (cmp_any g1 g2 cap1 cap2 9 _ _ R1.out.len R2.out.len (by omega) w2 R1.out.cell R2.out.cell)
  generalize hdr a0 a1 a2 a3 = x1 at HI HC
  generalize hdr a4 a5 a6 a7 = x2 at HI HC
  generalize hm3 : IntKind.i32.wrap a3 = m3 at HI
  generalize hm7 : IntKind.i32.wrap a7 = m7 at HI
  clear R1 R2 h4 h5
  by_cases k0 : a0 = a4
  rotate_left
  · go_wp2_with fail
    refine HC.out.mono ?_
    rintro e _ ⟨⟨r, rfl, hr⟩, m, rfl⟩
    have hr2 := hr.trans HI.out
    clear hr HI HC
    have hr3 : (r == 0) = false := by simpa using fun e => k0 (hr2.1 e).1
    clear hr2
    go_wp2_with fail
    go_ret
    exact ⟨rfl, HB2.out.trans ⟨rfl, rfl, rfl, Nat.le_refl _, fun _ _ => rfl⟩⟩
  by_cases k1 : a1 = a5
  rotate_left
  · go_wp2_with fail
    refine HC.out.mono ?_
    rintro e _ ⟨⟨r, rfl, hr⟩, m, rfl⟩
    have hr2 := hr.trans HI.out
    clear hr HI HC
    have hr3 : (r == 0) = false := by simpa using fun e => k1 (hr2.1 e).2.1
    clear hr2
    go_wp2_with fail
    go_ret
    exact ⟨rfl, HB2.out.trans ⟨rfl, rfl, rfl, Nat.le_refl _, fun _ _ => rfl⟩⟩
  by_cases k2 : a2 = a6
  rotate_left
  · go_wp2_with fail
    refine HC.out.mono ?_
    rintro e _ ⟨⟨r, rfl, hr⟩, m, rfl⟩
    have hr2 := hr.trans HI.out
    clear hr HI HC
    have hr3 : (r == 0) = false := by simpa using fun e => k2 (hr2.1 e).2.2.1
    clear hr2
    go_wp2_with fail
    go_ret
    exact ⟨rfl, HB2.out.trans ⟨rfl, rfl, rfl, Nat.le_refl _, fun _ _ => rfl⟩⟩
  by_cases k3 : m3 = m7
  rotate_left
  · have k3' : (m3 == m7) = false := by simpa using k3
    go_wp2_with fail
    refine HC.out.mono ?_
    rintro e _ ⟨⟨r, rfl, hr⟩, m, rfl⟩
    have hr2 := hr.trans HI.out
    clear hr HI HC
    have hr3 : (r == 0) = false := by simpa using fun e => k3 (hr2.1 e).2.2.2
    clear hr2
    go_wp2_with fail
    go_ret
    exact ⟨rfl, HB2.out.trans ⟨rfl, rfl, rfl, Nat.le_refl _, fun _ _ => rfl⟩⟩
  go_wp2_with fail
  refine HC.out.mono ?_
  rintro e _ ⟨⟨r, rfl, hr⟩, m, rfl⟩
  have hr2 := hr.trans HI.out
  clear hr HI HC
  have hr3 : r = 0 := hr2.2 ⟨k0, k1, k2, k3⟩
  clear hr2
  subst hr3
  go_wp2_with fail
  go_ret
  exact ⟨rfl, HB2.out.trans ⟨rfl, rfl, rfl, Nat.le_refl _, fun _ _ => rfl⟩⟩

set_option maxRecDepth 20000 in
theorem inj_early (a0 a1 a2 a3 a4 a5 a6 a7 : Int) (h : 65536 < a3 ∨ 65536 < a7) (w : World) :
    Calls Try.prog 6 #[.int .i16 a0, .int .u8 a1, .int .u8 a2, .int .i64 a3, .int .i16 a4, .int .u8 a5, .int .u8 a6, .int .i64 a7] w fun e w' => e = .returned (.bool true) ∧ Below w.heap.size w w' := by
  by_cases h3 : 65536 < a3
  · clear h
    go_enter Try.func6, Try.ntmps6
    go_wp2_with fail
    go_ret
    exact ⟨rfl, Below.refl _ _⟩
  · have h7 : 65536 < a7 := by omega
    clear h
    go_enter Try.func6, Try.ntmps6
    go_wp2_with fail
    go_ret
    exact ⟨rfl, Below.refl _ _⟩

theorem inj_any (a0 a1 a2 a3 a4 a5 a6 a7 : Int) (h0 : -32768 ≤ a0) (h1 : a0 ≤ 32767) (h2 : -32768 ≤ a4) (h3 : a4 ≤ 32767) (w : World) :
    Calls Try.prog 6 #[.int .i16 a0, .int .u8 a1, .int .u8 a2, .int .i64 a3, .int .i16 a4, .int .u8 a5, .int .u8 a6, .int .i64 a7] w fun e w' => e = .returned (.bool true) ∧ Below w.heap.size w w' := by
  by_cases h : 65536 < a3 ∨ 65536 < a7
  · exact inj_early a0 a1 a2 a3 a4 a5 a6 a7 h w
  · exact inj_core a0 a1 a2 a3 a4 a5 a6 a7 h0 h1 h2 h3 (by omega) (by omega) w
end Go.Proofs.Qxb6615551a
