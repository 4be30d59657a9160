/- cloneOps: a copy of the script in memory of its own. -/
import Derived.Test.Qxb6615097aTooBig
import Derived.Test.Qxb6615097aHeap
import Derived.Deep.RegionHeld3
namespace Go.Proofs.Qxb6615097a
open Go.RowKit

/-- One Set of the copied script. -/
structure COp where
  k : Option (List UInt8)
  v : Option (List UInt8)
  d : Int

def RawOp.cop (o : RawOp) : COp := ⟨if o.ka.isNone then none else some o.kl, if o.va.isNone then none else some o.vl, o.d⟩

/-- The cells cs hold the first k Sets of os. -/
def CellsOf (w : World) (cs : Array Value) (os : List COp) (k : Nat) : Prop :=
  ∀ i (h : i < os.length), i < k → ∃ kv vv, cs[i * 3]? = some kv ∧ cs[i * 3 + 1]? = some vv ∧ cs[i * 3 + 2]? = some (.int .i64 os[i].d) ∧ BV w kv os[i].k ∧ BV w vv os[i].v

theorem CellsOf.keep {w w' : World} {cs : Array Value} {os : List COp} {k : Nat} (h : CellsOf w cs os k) (h5 : Keep5 w w') : CellsOf w' cs os k := fun i hi hk => by
  obtain ⟨kv, vv, a1, a2, a3, a4, a5⟩ := h i hi hk
  exact ⟨kv, vv, a1, a2, a3, a4.keep h5, a5.keep h5⟩

/-- The copied script: nil, or a whole block of its own below B. -/
def OpsCl (w : World) (B : Nat) (v : Value) (os : List COp) : Prop :=
  (v = .slice none 0 0 ∧ os = []) ∨ ∃ cb cs, v = .slice (some ⟨cb, 0, none⟩) os.length os.length ∧ cb < B ∧ w.heap[cb]? = some (.cells cs 43 (0, 0)) ∧ CellsOf w cs os os.length

theorem clone_arg' {a : Option Addr} {l : List UInt8} {c : Nat} (w : World) (h : CameB w a l c) (hn : l.length ≤ 1048576) :
    Calls Try.prog 10 #[.slice a l.length c] w fun e w' => ∃ a', e = .returned (.slice a' l.length l.length) ∧ BV w' (.slice a' l.length l.length) (if a.isNone then none else some l) ∧ Below w.heap.size w w' := by
  refine (clone_arg w h.1 hn h.2.1).mono ?_
  rintro e w' ⟨v, rfl, hv, hb⟩
  obtain ⟨a', hs, _⟩ := hv.shape
  have hl : bts (if a.isNone then none else some l) = l := by
    cases a with
    | none => rw [(h.2.1 rfl).1]; rfl
    | some x => rfl
  rw [hl] at hs
  subst hs
  exact ⟨a', rfl, hv, hb⟩

theorem CameB.later {w X : World} {a : Option Addr} {l : List UInt8} {c : Nat} (h : CameB w a l c) (hb : Below w.heap.size w X) : CameB X a l c :=
  ⟨fun i hi => by obtain ⟨b, off, e, hc⟩ := h.1 i hi; exact ⟨b, off, e, cell_later hb hc⟩, h.2⟩

theorem Try.info43 : (Try.prog.info? 43).map (fun i => (i.zero, i.size, i.bytes)) = some (some (.agg #[.slice none 0 0, .slice none 0 0, .int .i64 0]), 3, 56) := by kernel_rfl

theorem cloneOps_nil (w : World) : Calls Try.prog 19 #[.slice none 0 0] w fun e w' => e = .returned (.slice none 0 0) ∧ w = w' := by
  have hq := fun (w : World) (a : Option Addr) (n c : Nat) => Lib.run_eql_slice_nil (P := Try.prog) w 35 43 a n c 0 0 Try.underlying35
  go_enter Try.func19, Try.ntmps19
  go_wp2
  go_ret
  exact ⟨rfl, rfl⟩

theorem own_row3 {w : World} {g n : Nat} {xs : List Value} {base : Nat} (h : w.ownsRow base 43 3 (.slice (some ⟨g, 0, none⟩) n n) n xs) : w.heap[g]? = some (.cells xs.toArray 43 (0, 0)) ∧ xs.length = n * 3 := by
  obtain ⟨h1, h2⟩ := h
  rcases h2 with ⟨h2, _⟩ | ⟨g', cap, cur, hv, _, hh, _, _, hs, ht⟩
  · cases h2
  · simp only [Value.slice.injEq, Option.some.injEq, Addr.mk.injEq, and_true, true_and] at hv
    obtain ⟨rfl, rfl⟩ := hv
    rw [List.take_of_length_le (by simp [hs])] at ht
    subst ht
    exact ⟨by simpa using hh, h1⟩

/-- What holds at the head of each round of cloneOps. -/
def CloneRel (w wr : World) (os : List RawOp) (k : Nat) : Prop :=
  Below w.heap.size w wr ∧ w.heap.size < wr.heap.size ∧ ∃ cs, wr.heap[w.heap.size]? = some (.cells cs 43 (0, 0)) ∧ cs.size = os.length * 3 ∧ CellsOf wr cs (os.map RawOp.cop) k

/-- The nine facts that the round's statement reads. -/
def Nine (X : World) (b off g o : Nat) (v0 v1 v2 u0 u1 u2 : Value) : Prop :=
  X.cell? ⟨b, off, none⟩ = some v0 ∧ X.cell? ⟨b, off + 1, none⟩ = some v1 ∧ X.cell? ⟨b, off + 2, none⟩ = some v2 ∧ X.cell? ⟨g, o, none⟩ = some u0 ∧ X.cell? ⟨g, o + 1, none⟩ = some u1 ∧ X.cell? ⟨g, o + 2, none⟩ = some u2 ∧
  X.frozen? ⟨g, o, none⟩ = false ∧ X.frozen? ⟨g, o + 1, none⟩ = false ∧ X.frozen? ⟨g, o + 2, none⟩ = false
theorem Nine.later {X X' : World} {b off g o : Nat} {v0 v1 v2 u0 u1 u2 : Value} (h : Nine X b off g o v0 v1 v2 u0 u1 u2) (hb : Below X.heap.size X X') : Nine X' b off g o v0 v1 v2 u0 u1 u2 := by
  obtain ⟨h1, h2, h3, h4, h5, h6, h7, h8, h9⟩ := h
  have hg := World.block_lt_of_cell? _ _ h4
  exact ⟨cell_later hb h1, cell_later hb h2, cell_later hb h3, cell_later hb h4, cell_later hb h5, cell_later hb h6, (hb.frozen (by exact hg)).trans h7, (hb.frozen (by exact hg)).trans h8, (hb.frozen (by exact hg)).trans h9⟩

theorem below_after {w X X' : World} (h : Below w.heap.size w X) (hb : Below X.heap.size X X') : Below w.heap.size w X' := h.trans (hb.mono h.size)
theorem below_store3 {w X : World} {o1 o2 o3 : Nat} {v1 v2 v3 : Value} (h : Below w.heap.size w X) : Below w.heap.size w (((X.setCell ⟨w.heap.size, o1, none⟩ v1).setCell ⟨w.heap.size, o2, none⟩ v2).setCell ⟨w.heap.size, o3, none⟩ v3) :=
  ((h.setCell (p := ⟨w.heap.size, o1, none⟩) (Nat.le_refl _) _).setCell (p := ⟨w.heap.size, o2, none⟩) (Nat.le_refl _) _).setCell (p := ⟨w.heap.size, o3, none⟩) (Nat.le_refl _) _
theorem undrew {w X : World} (h : Below w.drew.heap.size w.drew X) : Below w.heap.size w X := ⟨h.os, h.tape, h.output, h.size, h.block⟩

theorem clone_step {w wr X1 X2 : World} {os : List RawOp} {k : Nat} {o : RawOp} {cs : Array Value} (hB : Below w.heap.size w wr) (hsz : w.heap.size < wr.heap.size) (hcs : wr.heap[w.heap.size]? = some (.cells cs 43 (0, 0))) (hcz : cs.size = os.length * 3)
    (hC : CellsOf wr cs (os.map RawOp.cop) k) (hlt : k < os.length) (ho : (os.map RawOp.cop)[k]? = some o.cop) (hb1 : Below wr.heap.size wr X1) (hb2 : Below X1.heap.size X1 X2) {kv vv : Value} (hv1 : BV X1 kv o.cop.k) (hv2 : BV X2 vv o.cop.v) :
    CloneRel w (((X2.setCell ⟨w.heap.size, k * 3, none⟩ kv).setCell ⟨w.heap.size, k * 3 + 1, none⟩ vv).setCell ⟨w.heap.size, k * 3 + 2, none⟩ (.int .i64 o.d)) os (k + 1) := by
  have hb : Below wr.heap.size wr X2 := below_after hb1 hb2
  have h2 : X2.heap[w.heap.size]? = some (.cells cs 43 (0, 0)) := (hb.block _ hsz).trans hcs
  have hg := heap_set_at' _ _ (k * 3 + 2) _ _ _ (.int .i64 o.d) (heap_set_at' _ _ (k * 3 + 1) _ _ _ vv (heap_set_at' X2 w.heap.size (k * 3) cs 43 (0, 0) kv h2))
  have k5 : Keep5 X2 (((X2.setCell ⟨w.heap.size, k * 3, none⟩ kv).setCell ⟨w.heap.size, k * 3 + 1, none⟩ vv).setCell ⟨w.heap.size, k * 3 + 2, none⟩ (.int .i64 o.d)) := fun b cs' fz e => by
    have hne : b ≠ w.heap.size := by rintro rfl; rw [h2] at e; simp at e
    rw [heap_set_other _ _ _ _ (by exact hne), heap_set_other _ _ _ _ (by exact hne), heap_set_other _ _ _ _ (by exact hne)]
    exact e
  refine ⟨below_store3 (below_after hB hb), ?_, _, hg, by simp [hcz], ?_⟩
  · exact lt_of_some hg
  · intro i hi hik
    simp only [List.length_map] at hi
    by_cases e : i = k
    · subst e
      have ho' : (os.map RawOp.cop)[i] = o.cop := by
        have := (List.getElem?_eq_some_iff.1 ho).2
        exact this
      rw [ho']
      refine ⟨kv, vv, ?_, ?_, ?_, (hv1.keep (Keep5.of_below hb2)).keep k5, hv2.keep k5⟩
      · simp only [Array.getElem?_setIfInBounds]
        rw [if_neg (by omega), if_neg (by omega), if_pos trivial, if_pos (by omega)]
      · simp only [Array.getElem?_setIfInBounds, Array.size_setIfInBounds]
        rw [if_neg (by omega), if_pos trivial, if_pos (by omega)]
      · simp only [Array.getElem?_setIfInBounds, Array.size_setIfInBounds]
        rw [if_pos trivial, if_pos (by omega)]
        rfl
    · obtain ⟨kv', vv', a1, a2, a3, a4, a5⟩ := hC i (by simpa using hi) (by omega)
      refine ⟨kv', vv', ?_, ?_, ?_, (a4.keep (Keep5.of_below hb)).keep k5, (a5.keep (Keep5.of_below hb)).keep k5⟩
      · simp only [Array.getElem?_setIfInBounds]
        rw [if_neg (by omega), if_neg (by omega), if_neg (by omega)]
        exact a1
      · simp only [Array.getElem?_setIfInBounds]
        rw [if_neg (by omega), if_neg (by omega), if_neg (by omega)]
        exact a2
      · simp only [Array.getElem?_setIfInBounds]
        rw [if_neg (by omega), if_neg (by omega), if_neg (by omega)]
        exact a3

set_option maxHeartbeats 2000000 in
theorem cloneOps_some (x : Addr) (os : List RawOp) (c : Nat) (w : World) (h : OpsArg w (some x) os) (hS : Short os os.length) (hn : os.length ≤ 1048576) :
    Calls Try.prog 19 #[.slice (some x) os.length c] w fun e w' => ∃ v, e = .returned v ∧ OpsCl w' w'.heap.size v (os.map RawOp.cop) ∧ Below w.heap.size w w' := by
  have hq := fun (w : World) (a : Option Addr) (n c : Nat) => Lib.run_eql_slice_nil (P := Try.prog) w 35 43 a n c 0 0 Try.underlying35
  obtain ⟨i0, hi, hz0, hz1, hz2⟩ := info_parts Try.info43
  have hb0 : i0.bytes * os.length ≤ 281474976710656 := by rw [hz2]; omega
  go_enter Try.func19, Try.ntmps19
  go_wp2_with (at_make; refine wpList_make_full _ rfl _ _ 35 rfl w.heap.size 43 i0 (.agg #[.slice none 0 0, .slice none 0 0, .int .i64 0]) 3 Try.underlying35 hi hz0 hz1 .i64 .i64 _ _ os.length rfl rfl rfl rfl hb0 (by unfold maxLen; omega) (Nat.le_refl _) ?_; intro w1 hown1 hg1)
  have H0 : Hid (CloneRel w w1 os 0) := by
    obtain ⟨hr1, hr2⟩ := own_row3 hown1
    exact ⟨(Below.refl _ _).grown hg1 (Nat.le_refl _) (by intro k hk; cases hk), lt_of_some hr1, _, hr1, by simpa using hr2, fun i _ h => by omega⟩
  clear hown1 hg1
  go_loopw [4] (fun i wr => ∃ k : Nat, k ≤ os.length ∧ i = .int .i64 k ∧ Hid (CloneRel w wr os k)) (fun i _ => os.length - (intOf i).toNat)
  case atStart => exact ⟨0, Nat.zero_le _, rfl, H0⟩
  case round =>
    obtain ⟨k, hk, rfl, hR⟩ := hrel
    by_cases hlt : k < os.length
    · obtain ⟨b, off, hx, q0, q1, q2, r0, r1⟩ := h k hlt
      cases hx
      obtain ⟨b0, b1⟩ := hS k hlt hlt
      obtain ⟨hB, hsz, cs, hcs, hcz, hC⟩ := hR.out
      have R0 := hide r0
      have R1 := hide r1
      have hcop : Hid ((os.map RawOp.cop)[k]? = some os[k].cop) := by rw [Hid]; simp [hlt]
      have n9 : Nine wr b (off + k * 3) w.heap.size (k * 3) (.slice os[k].ka os[k].kl.length os[k].kc) (.slice os[k].va os[k].vl.length os[k].vc) (.int .i64 os[k].d) cs[k * 3] cs[k * 3 + 1] cs[k * 3 + 2] :=
        ⟨cell_later hB q0, cell_later hB q1, cell_later hB q2, by simp [World.cell?, hcs], by simp [World.cell?, hcs], by simp [World.cell?, hcs], by simp [World.frozen?, hcs], by simp [World.frozen?, hcs], by simp [World.frozen?, hcs]⟩
      generalize cs[k * 3] = u0 at n9
      generalize cs[k * 3 + 1] = u1 at n9
      generalize cs[k * 3 + 2] = u2 at n9
      generalize os[k] = o at R0 R1 b0 b1 hcop n9 q0 q1 q2
      obtain ⟨ka, kl, kc, va, vl, vc, d⟩ := o
      dsimp only at R0 R1 b0 b1 n9 q0 q1 q2
      have HSof : Hid (∀ X, Below w.heap.size w X → X.cell? ⟨b, off + k * 3, none⟩ = some (.slice ka kl.length kc) ∧ X.cell? ⟨b, off + k * 3 + 1, none⟩ = some (.slice va vl.length vc) ∧ X.cell? ⟨b, off + k * 3 + 2, none⟩ = some (.int .i64 d) ∧ Below w.heap.size w X) :=
        fun X hX => ⟨cell_later hX q0, cell_later hX q1, cell_later hX q2, hX⟩
      have HI := hide (And.intro hB (And.intro hsz (And.intro hcs (And.intro hcz hC))))
      have N9 := hide n9
      have i1 : (0 : Int) ≤ (k : Int) := by omega
      have i2 : (k : Int) < (os.length : Int) := by omega
      clear q0 q1 q2 r0 r1 hB hsz hcs hcz hC hR n9
      go_wp2_with fail
      go_region_held3 (fun X => X.cell? ⟨b, off + k * 3, none⟩ = some (.slice ka kl.length kc) ∧ X.cell? ⟨b, off + k * 3 + 1, none⟩ = some (.slice va vl.length vc) ∧ X.cell? ⟨b, off + k * 3 + 2, none⟩ = some (.int .i64 d) ∧ Below w.heap.size w X)
        (first
          | exact HSof.out _ HI.out.1.drew
          | (go_split_ands; exact HSof.out _ (below_store3 (by assumption)))
          | (go_split_ands; exact HSof.out _ (below_after (by assumption) hb)))
        (first
          | (go_at_call_of 10 ka; go_split_ands; refine (clone_arg' _ (R0.out.later (by assumption)) b0).mono ?_; rintro e X1 ⟨ka', rfl, hv1, hb⟩; have HB1 := hide hb)
          | (go_at_call_of 10 va; go_split_ands; refine (clone_arg' _ (R1.out.later (by assumption)) b1).mono ?_; rintro e X2 ⟨va', rfl, hv2, hb⟩; have HB2 := hide hb; obtain ⟨_, _, _, p4, p5, p6, p7, p8, p9⟩ := (N9.out.later (undrew HB1.out)).later HB2.out))
      have HN := hide (clone_step (o := ⟨ka, kl, kc, va, vl, vc, d⟩) HI.out.1 HI.out.2.1 HI.out.2.2.1 HI.out.2.2.2.1 HI.out.2.2.2.2 hlt hcop.out (undrew HB1.out) HB2.out hv1 hv2)
      go_wp2
      go_roundw
      case rel => exact ⟨k + 1, by omega, by go_num, HN⟩
      case measure => simp [intOf]; omega
    · have hkk : k = os.length := by omega
      have HKK := hide hkk
      clear hkk
      go_wp2
      go_ret
      obtain ⟨hB, hsz, cs, hcs, hcz, hC⟩ := hR.out
      refine ⟨_, rfl, .inr ⟨w.heap.size, cs, by simp, hsz, hcs, ?_⟩, hB⟩
      rw [HKK.out] at hC
      simpa using hC
end Go.Proofs.Qxb6615097a
