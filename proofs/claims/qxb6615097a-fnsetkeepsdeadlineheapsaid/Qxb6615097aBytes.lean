/- Byte slices: how they lie in memory, and the walks of bytesEq, cloneBytes, sameValue. -/
import Derived.Test.Qxb6615097aProg
import Derived.WalkKit
import Derived.WalkSpells
import Derived.WalkLawsBesides
import Derived.Deep.QuietTactic
import Derived.BigQuiet
import Derived.Laws.CopyOwn
import Derived.Deep.OwnRows
namespace Go.Proofs.Qxb6615097a
open Go.RowKit

theorem hide {p : Prop} (h : p) : Hid p := h

/-- The bytes l lie at the slice's address a, in w. -/
def RdB (w : World) (a : Option Addr) (l : List UInt8) : Prop :=
  ∀ i (h : i < l.length), ∃ b off, a = some ⟨b, off, none⟩ ∧ w.cell? ⟨b, off + i, none⟩ = some (.int .u8 (l[i].toNat : Int))

theorem u8_eq_iff (a b : UInt8) : a = b ↔ ((a.toNat : Int) = (b.toNat : Int)) := by
  rw [← UInt8.toNat_inj]; omega

theorem take_step {la lb : List UInt8} {k : Nat} (h : la.take k = lb.take k) (h1 : k < la.length) (h2 : k < lb.length) (e : ((la[k].toNat : Int) != (lb[k].toNat : Int)) = false) : la.take (k + 1) = lb.take (k + 1) := by
  rw [List.take_succ_eq_append_getElem h1, List.take_succ_eq_append_getElem h2, h]
  have : la[k] = lb[k] := by rw [u8_eq_iff]; simpa using e
  rw [this]

set_option maxHeartbeats 400000 in
theorem bytesEq_any (a b : Option Addr) (la lb : List UInt8) (ca cb : Nat) (w : World) (ha : RdB w a la) (hb : RdB w b lb) (h1 : la.length ≤ maxLen) (h2 : lb.length ≤ maxLen) :
    Calls Try.prog 9 #[.slice a la.length ca, .slice b lb.length cb] w fun e w' => e = .returned (.bool (decide (la = lb))) ∧ ∃ n, w' = w.drewN n := by
  unfold maxLen at h1 h2
  by_cases hl : la.length = lb.length
  · have hl' : ((la.length : Int) != (lb.length : Int)) = false := by simp [hl]
    have HL : Hid (la.length = lb.length) := hl
    clear hl
    go_enter Try.func9, Try.ntmps9
    go_wp2
    go_loopw [5] (fun i wr => ∃ k : Nat, k ≤ la.length ∧ i = .int .i64 k ∧ Hid (la.take k = lb.take k) ∧ ∃ n, wr = w.drewN n) (fun i _ => la.length - (intOf i).toNat)
    case atStart => exact ⟨0, Nat.zero_le _, rfl, rfl, 0, rfl⟩
    case round =>
      obtain ⟨k, hk, rfl, hE, n, rfl⟩ := hrel
      by_cases hlt : k < la.length
      · have hltb : k < lb.length := by have := HL.out; omega
        obtain ⟨b1, o1, rfl, hx⟩ := ha k hlt
        obtain ⟨b2, o2, rfl, hy⟩ := hb k hltb
        by_cases hne : ((la[k].toNat : Int) != (lb[k].toNat : Int)) = true
        · go_wp2
          go_quiet (fail)
          go_wp2
          go_ret
          refine ⟨?_, _, World.drewN_drewN _ _ _⟩
          have : la ≠ lb := by rintro rfl; simp at hne
          simp [this]
        · have hne' : ((la[k].toNat : Int) != (lb[k].toNat : Int)) = false := by simpa using hne
          have hs : Hid (la.take (k + 1) = lb.take (k + 1)) := take_step hE.out hlt hltb hne'
          clear hne
          go_wp2
          go_quiet (fail)
          go_wp2
          go_roundw
          case rel => exact ⟨k + 1, by omega, by go_num, hs, _, rfl⟩
          case measure => simp [intOf]; omega
      · go_wp2
        go_ret
        refine ⟨?_, _, rfl⟩
        have hkk : k = la.length := by omega
        have := hE.out
        rw [hkk, List.take_length, HL.out, List.take_length] at this
        simp [this]
  · go_enter Try.func9, Try.ntmps9
    go_wp2
    go_ret
    refine ⟨?_, 0, rfl⟩
    have : la ≠ lb := by rintro rfl; exact hl rfl
    simp [this]

/-- The cells of a row of bytes. -/
def bcells (l : List UInt8) : List Value := l.map fun b => .int .u8 (b.toNat : Int)

theorem bcells_length (l : List UInt8) : (bcells l).length = l.length := by simp [bcells]
theorem bcells_get (l : List UInt8) (i : Nat) (h : i < l.length) : (bcells l)[i]? = some (.int .u8 (l[i].toNat : Int)) := by simp [bcells, h]

theorem Try.info5 : (Try.prog.info? 5).map (fun i => (i.zero, i.size, i.bytes)) = some (some (.int .u8 0), 1, 1) := by kernel_rfl

theorem RdB.add {w : World} {x : Addr} {l : List UInt8} (h : RdB w (some x) l) (j : Nat) (v : Value) (hj : (bcells l)[j]? = some v) : w.cell? (x.add j) = some v := by
  have hjl : j < l.length := by
    have := (List.getElem?_eq_some_iff.1 hj).1
    simpa [bcells] using this
  obtain ⟨b, off, hx, hc⟩ := h j hjl
  rw [bcells_get l j hjl] at hj
  cases hj
  cases hx
  rw [WideShapes.add_plain]
  exact hc

theorem clone_nil (w : World) : Calls Try.prog 10 #[.slice none 0 0] w fun e w' => e = .returned (.slice none 0 0) ∧ w' = w := by
  have hq := fun (w : World) (a : Option Addr) (n c : Nat) => Lib.run_eql_slice_nil (P := Try.prog) w 22 5 a n c 0 0 Try.underlying22
  go_enter Try.func10, Try.ntmps10
  go_wp2
  go_ret
  exact ⟨rfl, rfl⟩

theorem splice_all {α : Type} (L cs : List α) (h : L.length = cs.length) : splice L 0 cs = cs := by
  simp [splice]; omega

theorem own_row {w : World} {g n : Nat} {xs : List Value} {base : Nat} (h : w.ownsRow base 5 1 (.slice (some ⟨g, 0, none⟩) n n) n xs) : w.heap[g]? = some (.cells xs.toArray 5 (0, 0)) ∧ xs.length = n := by
  obtain ⟨h1, h2⟩ := h
  rcases h2 with ⟨h2, _⟩ | ⟨g', cap, cur, hv, _, hh, _, _, hs, ht⟩
  · cases h2
  · simp only [Value.slice.injEq, Option.some.injEq, Addr.mk.injEq, and_true, true_and] at hv
    obtain ⟨rfl, rfl⟩ := hv
    simp only [Nat.mul_one] at h1 hs ht
    rw [List.take_of_length_le (by simp [hs])] at ht
    subst ht
    exact ⟨by simpa using hh, by simpa using hs⟩

set_option maxHeartbeats 400000 in
theorem clone_some (x : Addr) (l : List UInt8) (c : Nat) (w : World) (ha : RdB w (some x) l) (h1 : l.length ≤ 1048576) :
    Calls Try.prog 10 #[.slice (some x) l.length c] w fun e w' => e = .returned (.slice (some ⟨w.heap.size, 0, none⟩) l.length l.length) ∧ w'.heap[w.heap.size]? = some (.cells (bcells l).toArray 5 (0, 0)) ∧ Below w.heap.size w w' ∧ w.heap.size < w'.heap.size := by
  have hq := fun (w : World) (a : Option Addr) (n c : Nat) => Lib.run_eql_slice_nil (P := Try.prog) w 22 5 a n c 0 0 Try.underlying22
  obtain ⟨i0, hi, hz0, hz1, hz2⟩ := info_parts Try.info5
  have hb0 : i0.bytes * l.length ≤ 281474976710656 := by rw [hz2]; omega
  have hsz0 : (Try.prog.info? 5).map (·.size) = some 1 := by kernel_rfl
  have HZ := hide hsz0
  clear hsz0
  have HO : Hid (∀ v ∈ bcells l, v.oneCell' = true) := by intro v hv; simp only [bcells, List.mem_map] at hv; obtain ⟨b, _, rfl⟩ := hv; rfl
  obtain ⟨Z, HZZ⟩ : ∃ Z, Hid (Z = (madeCells (Value.int .u8 0).cells (l.length * 1)).toList) := ⟨_, rfl⟩
  go_enter Try.func10, Try.ntmps10
  go_wp2_with (first
    | (at_make; refine wpList_make_full _ rfl _ _ 22 rfl w.heap.size 5 i0 (.int .u8 0) 1 Try.underlying22 hi hz0 hz1 .i64 .i64 _ _ l.length rfl rfl rfl rfl hb0 (by unfold maxLen; omega) (Nat.le_refl _) ?_; intro w1 hown1 hg1; rw [← HZZ.out] at hown1; have HO1 := hide (own_row hown1); clear hown1; have HB1 : Hid (Below w.heap.size w w1) := (Below.refl _ _).grown hg1 (Nat.le_refl _) (by intro k hk; cases hk); clear hg1)
    | (have _t := HO1; refine wpList_copy_splice rfl _ _ 22 22 rfl 5 Try.underlying22 HZ.out _ _ _ _ _ _ rfl rfl w.heap.size 0 Z 5 HO1.out.1 (bcells l) ?c1 ?c2 ?c3 HO.out w.heap.size w HB1.out (Nat.le_refl _) ?_))
  case c1 => simp [bcells]
  case c2 =>
    intro _
    intro j v hj
    have h := ha.add j v hj
    exact (HB1.out.cell (World.block_lt_of_cell? _ _ h)).trans h
  case c3 => have := HO1.out.2; simp [bcells]; omega
  intro w2 HG2 hB2
  have e2 : splice Z 0 (bcells l) = bcells l := splice_all _ _ (by rw [HO1.out.2, bcells_length])
  rw [e2] at HG2
  clear e2
  go_wp2
  go_ret
  refine ⟨rfl, HG2.out, hB2, ?_⟩
  exact (Array.getElem?_eq_some_iff.1 HG2.out).1

/-! ### byte slices as the laws hold them: nil, or a row of their own -/
/-- The slice value v reads as l in w: nil, or it is a whole row of bytes. -/
def BV (w : World) (v : Value) (l : Option (List UInt8)) : Prop :=
  (v = .slice none 0 0 ∧ l = none) ∨ ∃ b bs, v = .slice (some ⟨b, 0, none⟩) bs.length bs.length ∧ w.heap[b]? = some (.cells (bcells bs).toArray 5 (0, 0)) ∧ l = some bs ∧ bs.length ≤ 1048576

/-- Every row of bytes stays what it is. -/
def Keep5 (w w' : World) : Prop := ∀ (b : Nat) (cs : Array Value) (fz : Nat × Nat), w.heap[b]? = some (.cells cs 5 fz) → w'.heap[b]? = some (.cells cs 5 fz)

theorem Keep5.refl (w : World) : Keep5 w w := fun _ _ _ h => h
theorem Keep5.trans {a b c : World} (h : Keep5 a b) (k : Keep5 b c) : Keep5 a c := fun _ _ _ e => k _ _ _ (h _ _ _ e)
theorem Keep5.of_below {w w' : World} (h : Below w.heap.size w w') : Keep5 w w' := fun b _ _ e => (h.block b (Array.getElem?_eq_some_iff.1 e).1).trans e

theorem BV.keep {w w' : World} {v : Value} {l : Option (List UInt8)} (h : BV w v l) (k : Keep5 w w') : BV w' v l := by
  rcases h with h | ⟨b, bs, hv, hb, hl, hn⟩
  · exact .inl h
  · exact .inr ⟨b, bs, hv, k _ _ _ hb, hl, hn⟩

/-- The bytes of a value, nil read as none. -/
def bts : Option (List UInt8) → List UInt8
  | some l => l
  | none => []

theorem BV.shape {w : World} {v : Value} {l : Option (List UInt8)} (h : BV w v l) : ∃ a, v = .slice a (bts l).length (bts l).length ∧ RdB w a (bts l) ∧ (bts l).length ≤ 1048576 ∧ a.isNone = l.isNone := by
  rcases h with ⟨rfl, rfl⟩ | ⟨b, bs, rfl, hb, rfl, hn⟩
  · exact ⟨none, rfl, fun i hi => by simp [bts] at hi, by simp [bts], rfl⟩
  · refine ⟨_, rfl, fun i hi => ⟨b, 0, rfl, ?_⟩, hn, rfl⟩
    simp only [bts] at hi
    simp only [World.cell?, hb, bts]
    simp [bcells, hi]

theorem clone_bv {v : Value} {l : Option (List UInt8)} (w : World) (h : BV w v l) :
    Calls Try.prog 10 #[v] w fun e w' => ∃ v', e = .returned v' ∧ BV w' v' l ∧ Below w.heap.size w w' := by
  rcases h with ⟨rfl, rfl⟩ | ⟨b, bs, rfl, hb, rfl, hn⟩
  · refine (clone_nil w).mono ?_
    rintro e w' ⟨rfl, rfl⟩
    exact ⟨_, rfl, .inl ⟨rfl, rfl⟩, Below.refl _ _⟩
  · refine (clone_some ⟨b, 0, none⟩ bs bs.length w (fun i hi => ⟨b, 0, rfl, ?_⟩) hn).mono ?_
    · simp only [World.cell?, hb]
      simp [bcells, hi]
    · rintro e w' ⟨rfl, h1, h2, _⟩
      exact ⟨_, rfl, .inr ⟨_, bs, rfl, h1, rfl, hn⟩, h2⟩

/-- .. of a slice that came in. -/
theorem clone_arg {a : Option Addr} {l : List UInt8} {c : Nat} (w : World) (h : RdB w a l) (hn : l.length ≤ 1048576) (h0 : a = none → l = [] ∧ c = 0) :
    Calls Try.prog 10 #[.slice a l.length c] w fun e w' => ∃ v', e = .returned v' ∧ BV w' v' (if a.isNone then none else some l) ∧ Below w.heap.size w w' := by
  cases a with
  | none =>
    obtain ⟨rfl, rfl⟩ := h0 rfl
    refine (clone_nil w).mono ?_
    rintro e w' ⟨rfl, rfl⟩
    exact ⟨_, rfl, .inl ⟨rfl, rfl⟩, Below.refl _ _⟩
  | some x =>
    refine (clone_some x l c w h hn).mono ?_
    rintro e w' ⟨rfl, h1, h2, _⟩
    exact ⟨_, rfl, .inr ⟨_, l, rfl, h1, rfl, hn⟩, h2⟩

theorem bytesEq_bv {v1 v2 : Value} {l1 l2 : Option (List UInt8)} (w : World) (h1 : BV w v1 l1) (h2 : BV w v2 l2) :
    Calls Try.prog 9 #[v1, v2] w fun e w' => e = .returned (.bool (decide (bts l1 = bts l2))) ∧ ∃ n, w' = w.drewN n := by
  obtain ⟨a1, rfl, r1, n1, _⟩ := h1.shape
  obtain ⟨a2, rfl, r2, n2, _⟩ := h2.shape
  exact bytesEq_any a1 a2 _ _ _ _ w r1 r2 (by unfold maxLen; omega) (by unfold maxLen; omega)

theorem opt_eq (l1 l2 : Option (List UInt8)) : decide (l1 = l2) = (decide (l1.isNone = l2.isNone) && decide (bts l1 = bts l2)) := by
  have e : (l1 = l2) ↔ (l1.isNone = l2.isNone ∧ bts l1 = bts l2) := by cases l1 <;> cases l2 <;> simp [bts]
  rw [decide_eq_decide.2 e, Bool.decide_and]

set_option maxHeartbeats 400000 in
theorem sameValue_bv {v1 v2 : Value} {l1 l2 : Option (List UInt8)} (w : World) (h1 : BV w v1 l1) (h2 : BV w v2 l2) :
    Calls Try.prog 16 #[v1, v2] w fun e w' => e = .returned (.bool (decide (l1 = l2))) ∧ ∃ n, w' = w.drewN n := by
  have hq := fun (w : World) (a : Option Addr) (n c : Nat) => Lib.run_eql_slice_nil (P := Try.prog) w 22 5 a n c 0 0 Try.underlying22
  have hc := fun (wx : World) (k1 : BV wx v1 l1) (k2 : BV wx v2 l2) => bytesEq_bv wx k1 k2
  have HC := hide hc
  obtain ⟨a1, rfl, r1, n1, e1⟩ := h1.shape
  obtain ⟨a2, rfl, r2, n2, e2⟩ := h2.shape
  clear hc
  rw [opt_eq]
  by_cases hn : l1.isNone = l2.isNone
  · go_enter Try.func16, Try.ntmps16
    go_wp2_with (go_at_call 9; refine (HC.out _ h1 h2).mono ?_; rintro e w' ⟨rfl, n, rfl⟩)
    go_ret
    exact ⟨by rw [decide_eq_true hn, Bool.true_and]; rfl, _, rfl⟩
  · go_enter Try.func16, Try.ntmps16
    go_wp2_with (go_at_call 9; refine (HC.out _ h1 h2).mono ?_; rintro e w' ⟨rfl, n, rfl⟩)
    go_ret
    exact ⟨by rw [decide_eq_false hn, Bool.false_and]; rfl, 0, rfl⟩
end Go.Proofs.Qxb6615097a
