/- zzReadBE32, zzCloneBytes, zzBytes. -/
import Derived.Test.Qxb6615551aInj
import Derived.Lib.EndianBits
import Derived.Deep.OwnRows
import Derived.Lib.SliceRun
namespace Go.Proofs.Qxb6615551a
open Go.RowKit

theorem or_hi32 (i : Nat) (x y : Int) (hx₀ : 0 ≤ x) (hx : x % 2 ^ i = 0) (hx₁ : x < 2 ^ 32) (hy₀ : 0 ≤ y) (hy : y < 2 ^ i) (hy₁ : y < 2 ^ 32) : bits .or .u32 x y = x + y :=
  bits_join .u32 32 (by decide) wraps_u32 i x y hx₀ hx hx₁ hy₀ hy hy₁

set_option maxHeartbeats 1000000 in
theorem read32 (g cap m off : Nat) (y1 y2 y3 y4 : Int) (a1 : 0 ≤ y1) (b1 : y1 < 256) (a2 : 0 ≤ y2) (b2 : y2 < 256) (a3 : 0 ≤ y3) (b3 : y3 < 256) (a4 : 0 ≤ y4) (b4 : y4 < 256) (w : World)
    (q1 : w.cell? ⟨g, off, none⟩ = some (.int .u8 y1)) (q2 : w.cell? ⟨g, off + 1, none⟩ = some (.int .u8 y2)) (q3 : w.cell? ⟨g, off + 2, none⟩ = some (.int .u8 y3)) (q4 : w.cell? ⟨g, off + 3, none⟩ = some (.int .u8 y4)) (hm : off + 4 ≤ m) (hmm : m ≤ 2097152) :
    Calls Try.prog 10 #[.slice (some ⟨g, 0, none⟩) m cap, .int .i64 off] w fun e w' => e = .returned (.int .u32 (y1 * 16777216 + y2 * 65536 + y3 * 256 + y4)) ∧ ∃ n, w' = w.drewN n := by
  have o1 : bits .or .u32 (y1 * 16777216) (y2 * 65536) = y1 * 16777216 + y2 * 65536 := or_hi32 24 _ _ (by omega) (by omega) (by omega) (by omega) (by omega) (by omega)
  have o2 : bits .or .u32 (y1 * 16777216 + y2 * 65536) (y3 * 256) = y1 * 16777216 + y2 * 65536 + y3 * 256 := or_hi32 16 _ _ (by omega) (by omega) (by omega) (by omega) (by omega) (by omega)
  have o3 : bits .or .u32 (y1 * 16777216 + y2 * 65536 + y3 * 256) y4 = y1 * 16777216 + y2 * 65536 + y3 * 256 + y4 := or_hi32 8 _ _ (by omega) (by omega) (by omega) (by omega) (by omega) (by omega)
  have i0 : (0 : Int) ≤ (off : Int) := by omega
  have i1 : (off : Int) < (m : Int) := by omega
  have i2 : (off : Int) + 1 < (m : Int) := by omega
  have i3 : (off : Int) + 2 < (m : Int) := by omega
  have i4 : (off : Int) + 3 < (m : Int) := by omega
  go_enter Try.func10, Try.ntmps10
  go_wp2_with fail
  go_quiet (fail)
  go_wp2_with fail
  go_ret
  exact ⟨rfl, _, rfl⟩

/-- Bytes that lie at a slice's address. -/
def RdA (w : World) (a : Option Addr) (xs : List Int) : Prop := ∀ i (h : i < xs.length), ∃ b off, a = some ⟨b, off, none⟩ ∧ w.cell? ⟨b, off + i, none⟩ = some (.int .u8 xs[i])

theorem RdA.later {w w' : World} {a : Option Addr} {xs : List Int} (h : RdA w a xs) (hb : ∀ b off, a = some ⟨b, off, none⟩ → b < w.heap.size → w'.heap[b]? = w.heap[b]?) : RdA w' a xs := fun i hi => by
  obtain ⟨b, off, rfl, hc⟩ := h i hi
  have hlt := World.block_lt_of_cell? _ _ hc
  refine ⟨b, off, rfl, ?_⟩
  have := hb b off rfl hlt
  simp only [World.cell?, this] at hc ⊢
  exact hc

theorem rd_of_own {B : Nat} {w : World} {p : Option Addr} {c : Nat} {xs : List Int} (h : w.ownsRow B 5 1 (.slice p xs.length c) xs.length (bc xs)) : RdA w p xs := fun i hi => by
  rcases h.2 with ⟨_, h3⟩ | ⟨g, cap, cur, hv, _⟩
  · omega
  · simp only [Value.slice.injEq, true_and] at hv
    obtain ⟨rfl, rfl⟩ := hv
    refine ⟨g, 0, rfl, ?_⟩
    rw [Nat.zero_add, h.cellAt i (by omega)]
    simp [bc, hi]

/-- The copy, while it is made. -/
def CloneR (w wr : World) (xs : List Int) (k : Nat) : Prop :=
  Below w.heap.size w wr ∧ ∃ ys : List Value, ys.length = xs.length ∧ ys.take k = (bc xs).take k ∧ wr.ownsRow w.heap.size 5 1 (.slice (some ⟨w.heap.size, 0, none⟩) xs.length xs.length) xs.length ys

theorem clone_step {w wr : World} {xs : List Int} {k : Nat} (h : CloneR w wr xs k) (hk : k < xs.length) : CloneR w (wr.setCell ⟨w.heap.size, k, none⟩ (.int .u8 xs[k])) xs (k + 1) := by
  obtain ⟨hb, ys, hl, ht, ho⟩ := h
  obtain ⟨h1, h2⟩ := ho.stored k (.int .u8 xs[k])
  refine ⟨hb.trans ⟨h2.os, h2.tape, h2.output, h2.size, fun i hi => h2.block i (Nat.lt_of_lt_of_le hi hb.size) (fun e => by cases e; omega)⟩, ys.set k (.int .u8 xs[k]), by simpa using hl, ?_, h1⟩
  have e1 : k < (ys.set k (.int .u8 xs[k])).length := by simp; omega
  have e2 : k < (bc xs).length := by rw [bc_length]; exact hk
  rw [List.take_succ_eq_append_getElem e1, List.take_succ_eq_append_getElem e2, List.take_set, List.set_eq_of_length_le (by simp; omega), ht]
  simp [bc]

theorem clone_nil (w : World) : Calls Try.prog 8 #[.slice none 0 0] w fun e w' => e = .returned (.slice none 0 0) ∧ w' = w := by
  have hq := fun (w : World) (a : Option Addr) (n c : Nat) => Lib.run_eql_slice_nil (P := Try.prog) w 22 5 a n c 0 0 Try.underlying22
  go_enter Try.func8, Try.ntmps8
  go_wp2_with fail
  go_ret
  exact ⟨rfl, rfl⟩

set_option maxHeartbeats 1000000 in
theorem clone_some (x : Addr) (xs : List Int) (c : Nat) (w : World) (h : RdA w (some x) xs) (hn : xs.length ≤ 1048576) :
    Calls Try.prog 8 #[.slice (some x) xs.length c] w fun e w' => ∃ p c', e = .returned (.slice p xs.length c') ∧ w'.ownsRow w.heap.size 5 1 (.slice p xs.length c') xs.length (bc xs) ∧ Below w.heap.size w w' := by
  have hq := fun (w : World) (a : Option Addr) (n c : Nat) => Lib.run_eql_slice_nil (P := Try.prog) w 22 5 a n c 0 0 Try.underlying22
  obtain ⟨i0, hi, hz0, hz1, hz2⟩ := info_parts Try.info5
  have hb0 : i0.bytes * xs.length ≤ 281474976710656 := by rw [hz2]; omega
  have HR := hide h
  clear h
  go_enter Try.func8, Try.ntmps8
  go_wp2_with (at_make; refine wpList_make_full _ rfl _ _ 22 rfl w.heap.size 5 i0 (.int .u8 0) 1 Try.underlying22 hi hz0 hz1 .i64 .i64 _ _ xs.length rfl rfl rfl rfl hb0 (by unfold maxLen; omega) (Nat.le_refl _) ?_; intro w1 hown1 hg1)
  have H0 : Hid (CloneR w w1 xs 0) := ⟨(Below.refl _ _).grown hg1 (Nat.le_refl _) (by intro k hk; cases hk), _, by have := hown1.1; simpa using this, by simp, hown1⟩
  clear hown1 hg1
  go_loopw [4] (fun i wr => ∃ k : Nat, k ≤ xs.length ∧ i = .int .i64 k ∧ Hid (CloneR w wr xs k)) (fun i _ => xs.length - (intOf i).toNat)
  case atStart => exact ⟨0, Nat.zero_le _, rfl, H0⟩
  case round =>
    obtain ⟨k, hk, rfl, hC⟩ := hrel
    by_cases hlt : k < xs.length
    · obtain ⟨b, off, hx, q0⟩ := HR.out k hlt
      cases hx
      have HN := hide (clone_step hC.out hlt)
      obtain ⟨hb, ys, hl, ht, ho⟩ := hC.out
      have q1 : wr.cell? ⟨b, off + k, none⟩ = some (.int .u8 xs[k]) := (hb.cell (World.block_lt_of_cell? _ _ q0)).trans q0
      have q2 : wr.cell? ⟨w.heap.size, k, none⟩ = some ys[k] := by rw [ho.cellAt k (by omega)]; simp
      have q3 := ho.frozenAt k
      generalize ys[k] = u at q2
      generalize xs[k] = y at q1 HN
      have i1 : (0 : Int) ≤ (k : Int) := by omega
      have i2 : (k : Int) < (xs.length : Int) := by omega
      clear hb hl ht ho q0
      go_wp2_with fail
      go_roundw
      case rel => exact ⟨k + 1, by omega, by go_num, HN⟩
      case measure => simp [intOf]; omega
    · have hkk : k = xs.length := by omega
      have HKK := hide hkk
      clear hkk
      go_wp2_with fail
      go_ret
      obtain ⟨hb, ys, hl, ht, ho⟩ := hC.out
      rw [HKK.out, List.take_of_length_le (by omega), List.take_of_length_le (by rw [bc_length]; omega)] at ht
      subst ht
      exact ⟨_, _, rfl, ho, hb⟩

theorem clone_any (a : Option Addr) (xs : List Int) (c : Nat) (w : World) (h : RdA w a xs) (h0 : a = none → xs = [] ∧ c = 0) (hn : xs.length ≤ 1048576) :
    Calls Try.prog 8 #[.slice a xs.length c] w fun e w' => ∃ p c', e = .returned (.slice p xs.length c') ∧ w'.ownsRow w.heap.size 5 1 (.slice p xs.length c') xs.length (bc xs) ∧ Below w.heap.size w w' := by
  cases a with
  | none =>
    obtain ⟨rfl, rfl⟩ := h0 rfl
    refine (clone_nil w).mono ?_
    rintro e w' ⟨rfl, rfl⟩
    exact ⟨none, 0, rfl, World.ownsRow_nil _ _ _ _, Below.refl _ _⟩
  | some x => exact clone_some x xs c w h hn

theorem zzb12 (a : Option Addr) (n c : Nat) (a1 a2 a3 a4 : Int) (w : World) (hn : n ≤ maxLen) :
    Calls Try.prog 12 #[.slice a n c, .int .i16 a1, .int .u8 a2, .int .u8 a3, .int .i64 a4] w fun e w' => e = .returned (.bool (decide (n ≤ 1048576))) ∧ w' = w := by
  unfold maxLen at hn
  by_cases h : n ≤ 1048576
  · rw [decide_eq_true h]
    go_enter Try.func12, Try.ntmps12
    go_wp2_with fail
    go_ret
    exact ⟨rfl, rfl⟩
  · rw [decide_eq_false h]
    go_enter Try.func12, Try.ntmps12
    go_wp2_with fail
    go_ret
    exact ⟨rfl, rfl⟩
end Go.Proofs.Qxb6615551a
