/- The walk of FnMapFieldAppendsNineByteHeader. -/
import Derived.Test.Qxb6615551aRd
namespace Go.Proofs.Qxb6615551a
open Go.RowKit

theorem wrap_i16' (x : Int) : IntKind.i16.wrap x = (x + 32768) % 65536 - 32768 := by
  simp only [IntKind.wrap, IntKind.bits, IntKind.signed]
  simp
  split <;> omega

theorem be32_len (x : Int) : (be32 x).length = 4 := rfl

theorem zzI32_nil (x : Int) (w : World) :
    Calls Try.prog 9 #[.slice none 0 0, .int .i32 x] w fun e w' => ∃ g cap, e = .returned (.slice (some ⟨g, 0, none⟩) 4 cap) ∧ RdO w' g 4 cap (be32 (x % 4294967296)) ∧ Below w.heap.size w w' := by
  refine (zzI32_any (B := w.heap.size) (ns := []) x w (World.ownsRow_nil _ _ _ _) (by simp) (Nat.le_refl _)).mono ?_
  rintro e w' ⟨v', rfl, ho⟩
  obtain ⟨g, cap, hv, hob, hr⟩ := ho.rd (by simp [be32_len])
  subst hv
  exact ⟨g, cap, rfl, hr, ho.fx.below (fun k _ e => by cases e)⟩

theorem read32_at {g cap m : Nat} {x : Int} (off : Nat) (y1 y2 y3 y4 : Int) (a1 : 0 ≤ y1) (b1 : y1 < 256) (a2 : 0 ≤ y2) (b2 : y2 < 256) (a3 : 0 ≤ y3) (b3 : y3 < 256) (a4 : 0 ≤ y4) (b4 : y4 < 256) (w : World)
    (q1 : w.cell? ⟨g, off, none⟩ = some (.int .u8 y1)) (q2 : w.cell? ⟨g, off + 1, none⟩ = some (.int .u8 y2)) (q3 : w.cell? ⟨g, off + 2, none⟩ = some (.int .u8 y3)) (q4 : w.cell? ⟨g, off + 3, none⟩ = some (.int .u8 y4)) (hm : off + 4 ≤ m) (hmm : m ≤ 2097152) (hx : x = (off : Int)) :
    Calls Try.prog 10 #[.slice (some ⟨g, 0, none⟩) m cap, .int .i64 x] w fun e w' => e = .returned (.int .u32 (y1 * 16777216 + y2 * 65536 + y3 * 256 + y4)) ∧ ∃ n, w' = w.drewN n := by
  subst hx
  exact read32 g cap m off y1 y2 y3 y4 a1 b1 a2 b2 a3 b3 a4 b4 w q1 q2 q3 q4 hm hmm

/-- What the law reads, in a world behind the calls. -/
structure Rds (w0 X : World) (p2 : Option Addr) (g3 c3 g4 c4 g5 c5 : Nat) (xs hd cn : List Int) : Prop where
  orig : RdA X p2 xs
  got : RdO X g3 (xs.length + 9) c3 (xs ++ hd)
  alone : RdO X g4 9 c4 hd
  cnt : RdO X g5 4 c5 cn
  below : Below w0.heap.size w0 X

section
variable {w0 X : World} {p2 : Option Addr} {g3 c3 g4 c4 g5 c5 : Nat} {xs hd cn : List Int}
theorem Rds.drewN (h : Rds w0 X p2 g3 c3 g4 c4 g5 c5 xs hd cn) (m : Nat) : Rds w0 (X.drewN m) p2 g3 c3 g4 c4 g5 c5 xs hd cn :=
  ⟨h.orig, ⟨h.got.len, h.got.cell⟩, ⟨h.alone.len, h.alone.cell⟩, ⟨h.cnt.len, h.cnt.cell⟩, h.below.trans ⟨rfl, rfl, rfl, Nat.le_refl _, fun _ _ => rfl⟩⟩
theorem Rds.old (h : Rds w0 X p2 g3 c3 g4 c4 g5 c5 xs hd cn) {k : Nat} (hk : k < xs.length) : X.cell? ⟨g3, k, none⟩ = some (.int .u8 xs[k]) := by
  have := h.got.cell k (by simp; omega)
  rw [this]
  simp [hk]
theorem Rds.new (h : Rds w0 X p2 g3 c3 g4 c4 g5 c5 xs hd cn) {j : Nat} {y : Int} (hj : hd[j]? = some y) : X.cell? ⟨g3, xs.length + j, none⟩ = some (.int .u8 y) := by
  have hl : j < hd.length := (List.getElem?_eq_some_iff.1 hj).1
  have := h.got.cell (xs.length + j) (by simp; omega)
  rw [this]
  have e := (List.getElem?_eq_some_iff.1 hj).2
  simp [e]
theorem RdO.at {w : World} {g n cap : Nat} {zs : List Int} (h : RdO w g n cap zs) {j : Nat} {y : Int} (hj : zs[j]? = some y) : w.cell? ⟨g, j, none⟩ = some (.int .u8 y) := by
  have hl : j < zs.length := (List.getElem?_eq_some_iff.1 hj).1
  rw [h.cell j hl, (List.getElem?_eq_some_iff.1 hj).2]
end

set_option maxRecDepth 20000 in
set_option maxHeartbeats 4000000 in
theorem nine_core (a : Option Addr) (xs : List Int) (c : Nat) (id key val n : Int) (w : World) (h : RdA w a xs) (h0 : a = none → xs = [] ∧ c = 0) (hn : xs.length ≤ 1048576) (h1 : -32768 ≤ id) (h2 : id ≤ 32767) (h3 : n ≤ 65536) :
    Calls Try.prog 5 #[.slice a xs.length c, .int .i16 id, .int .u8 key, .int .u8 val, .int .i64 n] w fun e w' => e = .returned (.bool true) ∧ Below w.heap.size w w' := by
  have HZ := hide (zzb12 a xs.length c id key val n w (by unfold maxLen; omega))
  have HC := hide (clone_any a xs c w h h0 hn)
  rw [decide_eq_true hn] at HZ
  clear h h0
  go_enter Try.func5, Try.ntmps5
  go_wp2_with fail
  refine HZ.out.mono ?_
  rintro e w' ⟨rfl, hw⟩
  have hw2 := hw.symm
  subst hw2
  go_wp2_with fail
  refine HC.out.mono ?_
  rintro e X1 ⟨p1, c1, rfl, ho1, hb1⟩
  have O1 := hide (And.intro ho1 hb1)
  have h01 : p1 = none → xs = [] ∧ c1 = 0 := by
    intro e
    rcases ho1.2 with ⟨hv, hl⟩ | ⟨g, cap, cur, hv, _⟩
    · simp only [Value.slice.injEq] at hv
      exact ⟨List.eq_nil_of_length_eq_zero hl, hv.2.2⟩
    · rw [e] at hv; simp at hv
  have HC2 := hide (clone_any p1 xs c1 X1 (rd_of_own ho1) h01 hn)
  clear ho1 hb1 h01 HC HZ
  go_wp2_with fail
  refine HC2.out.mono ?_
  rintro e X2 ⟨p2, c2, rfl, ho2, hb2⟩
  have ho1 := O1.out.1
  have ho1' : X2.ownsRow w.heap.size 5 1 (.slice p1 xs.length c1) xs.length (bc xs) := ho1.kept (row := none) ⟨hb2.os, hb2.tape, hb2.output, hb2.size, fun k hk _ => hb2.block k hk⟩ (by cases (Value.slice p1 xs.length c1).ownBlock <;> simp)
  have hb02 : Below w.heap.size w X2 := O1.out.2.trans (hb2.mono O1.out.2.size)
  have HM := hide (zzMap_any (B := w.heap.size) id key val n X2 ho1' (by omega) hb02.size h3)
  have HR2 := hide (rd_of_own ho2)
  have HNE : Hid (∀ b off, p2 = some ⟨b, off, none⟩ → b < X2.heap.size → ¬ (some b = (Value.slice p1 xs.length c1).ownBlock)) := by
    intro b off hp hb he
    have l1 := (O1.out.1.lt _ he.symm).2
    rcases ho2.2 with ⟨hv, _⟩ | ⟨g, cap, cur, hv, hg, _⟩
    · rw [hp] at hv; simp at hv
    · rw [hp] at hv
      simp only [Value.slice.injEq, Option.some.injEq, Addr.mk.injEq, and_true, true_and] at hv
      omega
  have HB2 := hide hb02
  have ho1k := hide ho1'
  clear ho1 ho1' ho2 hb2 hb02 HC2 O1
  go_wp2_with fail
  refine HM.out.mono ?_
  rintro e X3 ⟨v3, rfl, ho3⟩
  obtain ⟨g3, c3, hv3, hob3, hr3⟩ := ho3.rd (by simp [hdr_len])
  rw [List.length_append, hdr_len] at hv3 hr3
  have l3 := (ho3.row.lt _ hob3).2
  have R3 := hide hr3
  have HR3 : Hid (RdA X3 p2 xs) := HR2.out.later (fun b off hp hb => ho3.fx.block b hb (HNE.out b off hp hb))
  have HB3 : Hid (Below w.heap.size w X3) := HB2.out.trans ⟨ho3.fx.os, ho3.fx.tape, ho3.fx.output, ho3.fx.size, fun k hk => ho3.fx.block k (Nat.lt_of_lt_of_le hk HB2.out.size) (fun e => by have := (ho1k.out.lt _ e.symm).1; omega)⟩
  subst hv3
  have L3 := hide l3
  clear hob3 hr3 l3 ho3 HM HR2 HNE HB2 ho1k
  go_wp2_with fail
  refine (zzMap_nil id key val n X3 h3).mono ?_
  rintro e X4 ⟨g4, c4, rfl, hr4, l4, l4', hb4⟩
  have R4 := hide (And.intro (R3.out.later (hb4.block _ L3.out)) hr4)
  have HR4 : Hid (RdA X4 p2 xs) := HR3.out.later (fun b off hp hb => hb4.block b hb)
  have HB4 : Hid (Below w.heap.size w X4) := HB3.out.trans (hb4.mono HB3.out.size)
  have L4 : Hid (g3 < X4.heap.size ∧ g4 < X4.heap.size) := ⟨Nat.lt_of_lt_of_le L3.out hb4.size, l4'⟩
  clear hr4 l4 l4' hb4 R3 HR3 HB3 L3
  generalize hn32 : IntKind.i32.wrap n = n32
  have hm32 : n32 % 4294967296 = n % 4294967296 := by rw [← hn32, IntKind.wrap_i32]; omega
  go_wp2_with fail
  refine (zzI32_nil n32 X4).mono ?_
  rintro e X5 ⟨g5, c5, rfl, hr5, hb5⟩
  rw [hm32] at hr5
  have R5 : Hid (Rds w X5 p2 g3 c3 g4 c4 g5 c5 xs (hdr id key val n) (be32 (n % 4294967296))) :=
    ⟨HR4.out.later (fun b off hp hb => hb5.block b hb), R4.out.1.later (hb5.block _ L4.out.1), R4.out.2.later (hb5.block _ L4.out.2), hr5, HB4.out.trans (hb5.mono HB4.out.size)⟩
  have D0 : Hid ((hdr id key val n)[0]? = some 13) := rfl
  have D1 : Hid ((hdr id key val n)[1]? = some (id % 65536 / 256)) := rfl
  have D2 : Hid ((hdr id key val n)[2]? = some (id % 65536 % 256)) := rfl
  have D3 : Hid ((hdr id key val n)[3]? = some key) := rfl
  have D4 : Hid ((hdr id key val n)[4]? = some val) := rfl
  have D5 : Hid (∀ j, j < 4 → (hdr id key val n)[5 + j]? = (be32 (n % 4294967296))[j]?) := fun j _ => by
    rw [Nat.add_comm]
    rfl
  have D6 : Hid ((hdr id key val n).length = 9) := rfl
  have D7 : Hid (be32 (n % 4294967296) = [n % 4294967296 / 16777216, n % 4294967296 / 65536 % 256, n % 4294967296 / 256 % 256, n % 4294967296 % 256]) := rfl
  have hz : IntKind.i16.wrap (id % 65536 / 256 * 256 + id % 65536 % 256) = id := by rw [wrap_i16']; omega
  have ho : bits .or .u16 (id % 65536 / 256 * 256) (id % 65536 % 256) = id % 65536 / 256 * 256 + id % 65536 % 256 :=
    bits_join .u16 16 (by decide) wraps_u16 8 _ _ (by omega) (by omega) (by omega) (by omega) (by omega) (by omega)
  have y1a : 0 ≤ id % 65536 / 256 := by omega
  have y1b : id % 65536 / 256 < 256 := by omega
  have y2a : 0 ≤ id % 65536 % 256 := by omega
  have y2b : id % 65536 % 256 < 256 := by omega
  generalize id % 65536 / 256 = y1 at hz ho D1 y1a y1b
  generalize id % 65536 % 256 = y2 at hz ho D2 y2a y2b
  generalize y1 * 256 + y2 = z at hz ho
  generalize hdr id key val n = hd at R5 D0 D1 D2 D3 D4 D5 D6
  clear hr5 hb5 R4 HR4 HB4 L4 h1 h2 h3
  have e1 : xs.length ≤ 1048576 := hn
  go_wp2_with fail
  go_loopw [16] (fun i wr => ∃ k : Nat, k ≤ xs.length ∧ i = .int .i64 k ∧ Hid (Rds w wr p2 g3 c3 g4 c4 g5 c5 xs hd (be32 (n % 4294967296)))) (fun i _ => xs.length - (intOf i).toNat)
  case atStart => exact ⟨0, Nat.zero_le _, rfl, R5⟩
  case round =>
    obtain ⟨k, hk, rfl, hR⟩ := hrel
    by_cases hlt : k < xs.length
    · have q0 := hR.out.old hlt
      obtain ⟨b, off, hp2, q1⟩ := hR.out.orig k hlt
      have HRd : Hid (∀ m, Rds w (wr.drewN m) p2 g3 c3 g4 c4 g5 c5 xs hd (be32 (n % 4294967296))) := fun m => hR.out.drewN m
      generalize xs[k] = y at q0 q1
      have i1 : (0 : Int) ≤ (k : Int) := by omega
      have i2 : (k : Int) < (xs.length : Int) := by omega
      have i3 : (k : Int) < (xs.length : Int) + 9 := by omega
      subst hp2
      clear hR
      go_wp2_with fail
      go_quiet (fail)
      go_wp2_with fail
      go_roundw
      case rel => exact ⟨k + 1, by omega, by go_num, HRd.out _⟩
      case measure => simp [intOf]; omega
    · have hkk : k = xs.length := by omega
      subst hkk
      clear hk hlt
      have q0 : wr.cell? ⟨g3, xs.length, none⟩ = some (.int .u8 13) := hR.out.new D0.out
      have q1 := hR.out.new D1.out
      have q2 := hR.out.new D2.out
      have i0 : (0 : Int) ≤ (xs.length : Int) := by omega
      go_wp2_with fail
      go_quiet (fail)
      have R6 := hide (hR.out.drewN nq)
      clear hR q0 q1 q2
      generalize wr.drewN nq = wr2 at R6 ⊢
      have q3 := R6.out.new D3.out
      have q4 := R6.out.new D4.out
      go_wp2_with fail
      clear q3 q4
      go_loopw [17] (fun i wr => ∃ k : Nat, k ≤ 4 ∧ i = .int .i64 k ∧ Hid (Rds w wr p2 g3 c3 g4 c4 g5 c5 xs hd (be32 (n % 4294967296)))) (fun i _ => 4 - (intOf i).toNat)
      case atStart => exact ⟨0, Nat.zero_le _, rfl, R6⟩
      case round =>
        obtain ⟨k, hk, rfl, hR⟩ := hrel
        by_cases hlt : k < 4
        · have hk1 : k < (be32 (n % 4294967296)).length := hlt
          have hk2 : (be32 (n % 4294967296))[k]? = some (be32 (n % 4294967296))[k] := List.getElem?_eq_getElem hk1
          have q0 := hR.out.new ((D5.out k hlt).trans hk2)
          have q1 := hR.out.cnt.at hk2
          rw [← Nat.add_assoc] at q0
          have HRd : Hid (∀ m, Rds w (wr.drewN m) p2 g3 c3 g4 c4 g5 c5 xs hd (be32 (n % 4294967296))) := fun m => hR.out.drewN m
          clear hk2
          generalize (be32 (n % 4294967296))[k] = y at q0 q1
          have i1 : (0 : Int) ≤ (k : Int) := by omega
          have i2 : (k : Int) < 4 := by omega
          have i3 : (xs.length : Int) + 5 + (k : Int) < (xs.length : Int) + 9 := by omega
          have i4 : (0 : Int) ≤ (xs.length : Int) + 5 + (k : Int) := by omega
          have i5 : ((xs.length : Int) + 5 + (k : Int)).toNat = xs.length + 5 + k := by omega
          clear hR hk1
          go_wp2_with fail
          go_quiet (fail)
          go_wp2_with fail
          go_roundw
          case rel => exact ⟨k + 1, by omega, by go_num, HRd.out _⟩
          case measure => simp [intOf]; omega
        · have hkk : k = 4 := by omega
          subst hkk
          clear hk hlt
          have HR32 := hide (read32_at (g := g3) (cap := c3) (m := xs.length + 9) (x := (xs.length : Int) + 5) (xs.length + 5) (n % 4294967296 / 16777216) (n % 4294967296 / 65536 % 256) (n % 4294967296 / 256 % 256) (n % 4294967296 % 256)
            (by omega) (by omega) (by omega) (by omega) (by omega) (by omega) (by omega) (by omega) wr
            (hR.out.new (j := 5 + 0) (D5.out 0 (by omega))) (hR.out.new (j := 5 + 1) (D5.out 1 (by omega))) (hR.out.new (j := 5 + 2) (D5.out 2 (by omega))) (hR.out.new (j := 5 + 3) (D5.out 3 (by omega))) (by omega) (by omega) (by omega))
          rw [show n % 4294967296 / 16777216 * 16777216 + n % 4294967296 / 65536 % 256 * 65536 + n % 4294967296 / 256 % 256 * 256 + n % 4294967296 % 256 = n % 4294967296 from by omega] at HR32
          have hw32 : IntKind.i32.wrap (n % 4294967296) = n32 := by rw [← hn32, IntKind.wrap_i32, IntKind.wrap_i32]; omega
          generalize be32 (n % 4294967296) = cn at hR D5 D7
          generalize n % 4294967296 = x32 at HR32 hw32 hm32 D7
          go_wp2_with fail
          refine HR32.out.mono ?_
          rintro e _ ⟨rfl, n7, rfl⟩
          have R7 := hide (hR.out.drewN n7)
          clear hR HR32
          generalize wr.drewN n7 = wr3 at R7 ⊢
          go_wp2_with fail
          go_loopw [18] (fun i wr => ∃ k : Nat, k ≤ 9 ∧ i = .int .i64 k ∧ Hid (Rds w wr p2 g3 c3 g4 c4 g5 c5 xs hd cn)) (fun i _ => 9 - (intOf i).toNat)
          case atStart => exact ⟨0, Nat.zero_le _, rfl, R7⟩
          case round =>
            obtain ⟨k, hk, rfl, hR⟩ := hrel
            by_cases hlt : k < 9
            · have hk1 : k < hd.length := by rw [D6.out]; exact hlt
              have hk2 : hd[k]? = some hd[k] := List.getElem?_eq_getElem hk1
              have q0 := hR.out.new hk2
              have q1 := hR.out.alone.at hk2
              have HRd : Hid (∀ m, Rds w (wr.drewN m) p2 g3 c3 g4 c4 g5 c5 xs hd cn) := fun m => hR.out.drewN m
              clear hk2
              generalize hd[k] = y at q0 q1
              have i1 : (0 : Int) ≤ (k : Int) := by omega
              have i2 : (k : Int) < 9 := by omega
              have i3 : (xs.length : Int) + (k : Int) < (xs.length : Int) + 9 := by omega
              have i4 : (0 : Int) ≤ (xs.length : Int) + (k : Int) := by omega
              have i5 : ((xs.length : Int) + (k : Int)).toNat = xs.length + k := by omega
              clear hR hk1
              go_wp2_with fail
              go_quiet (fail)
              go_wp2_with fail
              go_roundw
              case rel => exact ⟨k + 1, by omega, by go_num, HRd.out _⟩
              case measure => simp [intOf]; omega
            · clear hk
              go_wp2_with fail
              go_ret
              exact ⟨rfl, hR.out.below⟩

set_option maxRecDepth 20000 in
theorem nine_early (a : Option Addr) (m c : Nat) (id key val n : Int) (w : World) (hn : m ≤ maxLen) (h : ¬ (m ≤ 1048576 ∧ n ≤ 65536)) :
    Calls Try.prog 5 #[.slice a m c, .int .i16 id, .int .u8 key, .int .u8 val, .int .i64 n] w fun e w' => e = .returned (.bool true) ∧ Below w.heap.size w w' := by
  have HZ := hide (zzb12 a m c id key val n w hn)
  have HH := hide h
  clear h
  by_cases hm : m ≤ 1048576
  · have h3 : 65536 < n := by have := HH.out; omega
    rw [decide_eq_true hm] at HZ
    go_enter Try.func5, Try.ntmps5
    go_wp2_with fail
    refine HZ.out.mono ?_
    rintro e w' ⟨rfl, hw⟩
    have hw2 := hw.symm
    subst hw2
    go_wp2_with fail
    go_ret
    exact ⟨rfl, Below.refl _ _⟩
  · rw [decide_eq_false hm] at HZ
    go_enter Try.func5, Try.ntmps5
    go_wp2_with fail
    refine HZ.out.mono ?_
    rintro e w' ⟨rfl, hw⟩
    have hw2 := hw.symm
    subst hw2
    go_wp2_with fail
    go_ret
    exact ⟨rfl, Below.refl _ _⟩

theorem nine_any (a : Option Addr) (xs : List Int) (c : Nat) (id key val n : Int) (w : World) (h : RdA w a xs) (h0 : a = none → xs = [] ∧ c = 0) (hn : xs.length ≤ maxLen) (h1 : -32768 ≤ id) (h2 : id ≤ 32767) :
    Calls Try.prog 5 #[.slice a xs.length c, .int .i16 id, .int .u8 key, .int .u8 val, .int .i64 n] w fun e w' => e = .returned (.bool true) ∧ Below w.heap.size w w' := by
  by_cases hc : xs.length ≤ 1048576 ∧ n ≤ 65536
  · exact nine_core a xs c id key val n w h h0 hc.1 h1 h2 hc.2
  · exact nine_early a xs.length c id key val n w hn hc
end Go.Proofs.Qxb6615551a
