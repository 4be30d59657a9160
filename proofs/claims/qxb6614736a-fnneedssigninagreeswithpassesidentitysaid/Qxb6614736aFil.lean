/- Files of routes: zzFileOfPublics, NeedsSignIn, zzSomePrivate. -/
import Derived.Test.Qxb6614736aProg
import Derived.WalkKit
import Derived.WalkSpells
import Derived.WalkLawsBesides
import Derived.Deep.QuietTactic
import Derived.BigQuiet
import Derived.Deep.OwnRows
import Derived.Deep.MidRow
namespace Go.Proofs.Qxb6614736a
open Go.RowKit

theorem hide {p : Prop} (h : p) : Hid p := h

/-- Bools that lie at a slice's address. -/
def RdP (w : World) (a : Option Addr) (xs : List Bool) : Prop := ∀ i (h : i < xs.length), ∃ b off, a = some ⟨b, off, none⟩ ∧ w.cell? ⟨b, off + i, none⟩ = some (.bool xs[i])

theorem RdP.later {w w' : World} {a : Option Addr} {xs : List Bool} (h : RdP w a xs) (hb : Below w.heap.size w w') : RdP w' a xs := fun i hi => by
  obtain ⟨b, off, rfl, hc⟩ := h i hi
  exact ⟨b, off, rfl, (hb.cell (World.block_lt_of_cell? _ _ hc)).trans hc⟩

def priv (xs : List Bool) : Bool := xs.any (!·)

set_option maxHeartbeats 1000000 in
theorem somePriv (a : Option Addr) (xs : List Bool) (c : Nat) (w : World) (h : RdP w a xs) (hn : xs.length ≤ 1048576) :
    Calls Try.prog 10 #[.slice a xs.length c] w fun e w' => e = .returned (.bool (priv xs)) ∧ w' = w := by
  have HR := hide h
  clear h
  go_enter Try.func10, Try.ntmps10
  go_wp2_with fail
  go_loop [3] (fun i => ∃ k : Nat, k ≤ xs.length ∧ i = .int .i64 k ∧ Hid (priv xs = priv (xs.drop k))) (fun i => xs.length - (intOf i).toNat)
  case atStart => exact ⟨0, Nat.zero_le _, rfl, rfl⟩
  case round =>
    obtain ⟨k, hk, rfl, hE⟩ := hrel
    by_cases hlt : k < xs.length
    · obtain ⟨b, off, ha, q0⟩ := HR.out k hlt
      subst ha
      have HD : Hid (priv xs = (!xs[k] || priv (xs.drop (k + 1)))) := by
        rw [Hid, hE.out, List.drop_eq_getElem_cons hlt]
        rfl
      generalize xs[k] = y at q0 HD
      have i1 : (0 : Int) ≤ (k : Int) := by omega
      have i2 : (k : Int) < (xs.length : Int) := by omega
      clear hE
      cases y
      · go_wp2_with fail
        go_ret
        exact ⟨by rw [HD.out]; rfl, rfl⟩
      · go_wp2_with fail
        go_round
        case rel => exact ⟨k + 1, by omega, by go_num, by rw [Hid, HD.out]; rfl⟩
        case measure => simp [intOf]; omega
    · have hkk : k = xs.length := by omega
      have HE : Hid (priv xs = false) := by rw [Hid, hE.out, hkk, List.drop_length]; rfl
      clear hkk hE
      go_wp2_with fail
      go_ret
      exact ⟨by rw [HE.out]; rfl, rfl⟩

theorem Try.size42 : (Try.prog.info? 42).map (·.size) = some 28 := by kernel_rfl
/-- The cells of a route that is public or not, and nothing else. -/
def rcells (y : Bool) : List Value :=
  [.string ⟨#[]⟩, .string ⟨#[]⟩, .pointer none, .string ⟨#[]⟩, .string ⟨#[]⟩, .string ⟨#[]⟩, .string ⟨#[]⟩, .string ⟨#[]⟩, .string ⟨#[]⟩, .bool false, .bool false,
   .string ⟨#[]⟩, .string ⟨#[]⟩, .pointer none, .string ⟨#[]⟩, .string ⟨#[]⟩, .string ⟨#[]⟩, .string ⟨#[]⟩, .string ⟨#[]⟩, .string ⟨#[]⟩, .bool false, .bool false,
   .bool y, .bool false, .slice none 0 0, .slice none 0 0, .slice none 0 0, .pointer none]
theorem rcells_len (y : Bool) : (rcells y).length = 28 := rfl
theorem rcells_one (y : Bool) : (rcells y).toArray.all (·.oneCell') = true :=
  all_oneCell_toArray (by intro v hv; simp only [rcells, List.mem_cons, List.not_mem_nil, or_false] at hv; rcases hv with h | h | h | h | h | h | h | h | h | h | h | h | h | h | h | h | h | h | h | h | h | h | h | h | h | h | h | h <;> (subst h; rfl))
theorem size42' (y : Bool) : (Try.prog.info? 42).map (·.size) = some (rcells y).toArray.size := Try.size42.trans (by rw [List.size_toArray, rcells_len])

theorem Try.info42 : (Try.prog.info? 42).map (fun i => (i.zero, i.size, i.bytes)) = some (some (.agg (rcells false).toArray), 28, 376) := by kernel_rfl

theorem below_setCells (b : Nat) : ∀ (vs : List Value) (o : Nat) (w : World) (B : Nat), B ≤ b → Below B w (w.setCells b o vs)
  | [], _, w, B, _ => Below.refl B w
  | v :: r, o, w, B, h => by
    rw [World.setCells]
    exact ((Below.refl B w).setCell (by exact h) _).trans (below_setCells b r (o + 1) _ B h)

theorem size_setCells (b : Nat) : ∀ (vs : List Value) (o : Nat) (w : World), (w.setCells b o vs).heap.size = w.heap.size
  | [], _, w => rfl
  | v :: r, o, w => by
    rw [World.setCells, size_setCells b r]
    simp [World.setCell]

theorem there_sub {w : World} {b n o m : Nat} (h : w.there b 0 n) (ho : o + m ≤ n) : w.there b o m := fun j hj => by
  have := h (o + j) (by omega)
  simpa using this

/-- The routes, while they are made. -/
def FileR (w wr : World) (xs : List Bool) (k : Nat) : Prop :=
  Below w.heap.size w wr ∧ w.heap.size < wr.heap.size ∧ wr.there w.heap.size 0 (xs.length * 28) ∧ ∀ i (h : i < xs.length), i < k → wr.rangeAt w.heap.size (i * 28) (rcells xs[i])

theorem file_step {w wr : World} {xs : List Bool} {k : Nat} (h : FileR w wr xs k) (hk : k < xs.length) : FileR w (wr.setCells w.heap.size (k * 28) (rcells xs[k])) xs (k + 1) := by
  obtain ⟨h1, h2, h3, h4⟩ := h
  refine ⟨h1.trans (below_setCells _ _ _ _ _ (Nat.le_refl _)), by rw [size_setCells]; exact h2, World.there_setCells h3 _ _ _, fun i hi hik => ?_⟩
  by_cases e : i = k
  · subst e
    exact World.rangeAt_setCells_same _ _ _ _ (there_sub h3 (by rw [rcells_len]; omega))
  · exact World.rangeAt_setCells_apart (h4 i hi (by omega)) _ _ _ (.inr (.inl (by rw [rcells_len]; omega)))

/-- The file at block fb: its flag, its routes. -/
structure FileAt (w : World) (fb : Nat) (flag : Bool) (xs : List Bool) : Prop where
  lt : fb < w.heap.size
  flag : w.cell? ⟨fb, 13, none⟩ = some (.bool flag)
  thaw : w.frozen? ⟨fb, 13, none⟩ = false
  routes : ∃ g, w.cell? ⟨fb, 14, none⟩ = some (.slice (some ⟨g, 0, none⟩) xs.length xs.length) ∧ g < w.heap.size ∧ ∀ i (h : i < xs.length), w.rangeAt g (i * 28) (rcells xs[i])

theorem cell_new (w : World) (cs : Array Value) (t : TypeId) (j : Nat) : (w.alloc (.cells cs t)).cell? ⟨w.heap.size, j, none⟩ = cs[j]? := by
  simp only [World.cell?, heap_alloc_new]
  rfl
theorem frozen_new (w : World) (cs : Array Value) (t : TypeId) (j : Nat) : (w.alloc (.cells cs t)).frozen? ⟨w.heap.size, j, none⟩ = false := by
  simp only [World.frozen?, heap_alloc_new]
  simp

set_option maxRecDepth 20000 in
set_option maxHeartbeats 1000000 in
theorem file_low (a : Option Addr) (xs : List Bool) (c : Nat) (w : World) (h : RdP w a xs) (hn : xs.length ≤ 65536) :
    Calls Try.prog 8 #[.slice a xs.length c] w fun e w' => ∃ fb, e = .returned (.pointer (some ⟨fb, 0, none⟩)) ∧ FileAt w' fb false xs ∧ Below w.heap.size w w' ∧ w.heap.size ≤ fb := by
  obtain ⟨i0, hi, hz0, hz1, hz2⟩ := info_parts Try.info42
  have hb0 : i0.bytes * xs.length ≤ 281474976710656 := by rw [hz2]; omega
  have HR := hide h
  clear h
  go_enter Try.func8, Try.ntmps8
  go_wp2_with (at_make; refine wpList_make_full _ rfl _ _ 31 rfl w.heap.size 42 i0 (.agg (rcells false).toArray) 28 Try.underlying31 hi hz0 hz1 .i64 .i64 _ _ xs.length rfl rfl rfl rfl hb0 (by unfold maxLen; omega) (Nat.le_refl _) ?_; intro w1 hown1 hg1)
  have H0 : Hid (FileR w w1 xs 0) := by
    refine ⟨(Below.refl _ _).grown hg1 (Nat.le_refl _) (by intro k hk; cases hk), (hown1.lt _ rfl).2, fun j hj => ⟨?_, ?_⟩, fun i _ h => by omega⟩
    · rw [Nat.zero_add, hown1.cellAt j hj]
      have := hown1.1
      rw [List.getElem?_eq_getElem (by omega)]
      rfl
    · rw [Nat.zero_add]; exact hown1.frozenAt j
  clear hown1 hg1
  go_loopw [4] (fun i wr => ∃ k : Nat, k ≤ xs.length ∧ i = .int .i64 k ∧ Hid (FileR w wr xs k)) (fun i _ => xs.length - (intOf i).toNat)
  case atStart => exact ⟨0, Nat.zero_le _, rfl, H0⟩
  case round =>
    obtain ⟨k, hk, rfl, hC⟩ := hrel
    by_cases hlt : k < xs.length
    · obtain ⟨b, off, hx, q0⟩ := HR.out k hlt
      subst hx
      have HN : Hid (FileR w (wr.setCells w.heap.size (k * 28) (rcells xs[k]).toArray.toList) xs (k + 1)) := file_step hC.out hlt
      have q1 : wr.cell? ⟨b, off + k, none⟩ = some (.bool xs[k]) := (hC.out.1.cell (World.block_lt_of_cell? _ _ q0)).trans q0
      have HT : Hid (wr.there w.heap.size (k * 28) (rcells xs[k]).toArray.size) := there_sub hC.out.2.2.1 (by simp [rcells_len]; omega)
      generalize xs[k] = y at q1 HN HT
      have i1 : (0 : Int) ≤ (k : Int) := by omega
      have i2 : (k : Int) < (xs.length : Int) := by omega
      clear q0
      clear hC
      go_wp2_with (with_reducible (show wpList _ _ _ (Oper.mk _ (Op.store 42 _ _) _ _ _ _ :: _) _ _); refine wpList_store_mid rfl 42 _ _ rfl w.heap.size (k * 28) (rcells y).toArray rfl rfl HT.out (size42' y) (rcells_one y) ?_; clear HT; generalize wr.setCells w.heap.size (k * 28) (rcells y).toArray.toList = X at HN ⊢)
      go_roundw
      case rel => exact ⟨k + 1, by omega, by go_num, HN⟩
      case measure => simp [intOf]; omega
    · have hkk : k = xs.length := by omega
      have HKK := hide hkk
      clear hkk
      go_wp2_with fail
      go_ret
      obtain ⟨h1, h2, h3, h4⟩ := hC.out
      rw [HKK.out] at h4
      refine ⟨wr.heap.size, rfl, ⟨by simp, ?_, ?_, w.heap.size, ?_, by simp; omega, fun i hi => World.rangeAt_alloc (h4 i hi hi) _⟩, h1.alloc h1.size _, Nat.le_of_lt h2⟩
      · rw [cell_new]; rfl
      · rw [frozen_new]
      · rw [cell_new]; rfl

theorem file_any (a : Option Addr) (xs : List Bool) (c : Nat) (w : World) (h : RdP w a xs) (hn : xs.length ≤ 65536) :
    Calls Try.prog 8 #[.slice a xs.length c] w fun e w' => ∃ fb, e = .returned (.pointer (some ⟨fb, 0, none⟩)) ∧ FileAt w' fb false xs ∧ Below w.heap.size w w' := by
  refine (file_low a xs c w h hn).mono ?_
  rintro e w' ⟨fb, h1, h2, h3, _⟩
  exact ⟨fb, h1, h2, h3⟩

theorem FileAt.later {w w' : World} {fb : Nat} {flag : Bool} {xs : List Bool} (h : FileAt w fb flag xs) (hb : Below w.heap.size w w') : FileAt w' fb flag xs := by
  obtain ⟨g, r1, r2, r3⟩ := h.routes
  refine ⟨Nat.lt_of_lt_of_le h.lt hb.size, (hb.cell h.lt).trans h.flag, ?_, g, (hb.cell h.lt).trans r1, Nat.lt_of_lt_of_le r2 hb.size, fun i hi j v hv => (hb.cell r2).trans (r3 i hi j v hv)⟩
  have := hb.block fb h.lt
  have h2 := h.thaw
  simp only [World.frozen?, this] at h2 ⊢
  exact h2

/-- The per-route question. -/
theorem isPriv (y : Bool) (w : World) : Calls Try.prog 20 #[.agg (rcells y).toArray] w fun e w' => e = .returned (.bool (!y)) ∧ Below w.heap.size w w' := by
  have q : (w.alloc (.cells (rcells y).toArray 42)).cell? ⟨w.heap.size, 22, none⟩ = some (.bool y) := by rw [cell_new]; rfl
  go_enter Try.func20, Try.ntmps20
  go_wp2_with fail
  go_ret
  exact ⟨rfl, (Below.refl _ _).alloc (Nat.le_refl _) _⟩

/-- The ending is an index, or -1 where every route is public. -/
def IdxSays (e : Ending) (xs : List Bool) : Prop := ∃ r : Int, e = .returned (.int .i64 r) ∧ decide (0 ≤ r) = priv xs

set_option maxRecDepth 20000 in
set_option maxHeartbeats 1000000 in
theorem indexFunc (g : Nat) (xs : List Bool) (w : World) (hg : g < w.heap.size) (h : ∀ i (h : i < xs.length), w.rangeAt g (i * 28) (rcells xs[i])) (hn : xs.length ≤ 65536) :
    Calls Try.prog 19 #[.slice (some ⟨g, 0, none⟩) xs.length xs.length, .func (.func 20) #[] #[]] w fun e w' => IdxSays e xs ∧ Below w.heap.size w w' := by
  have HR := hide h
  clear h
  go_enter Try.func19, Try.ntmps19
  go_wp2_with fail
  go_loopw [8] (fun i wr => ∃ k : Nat, k ≤ xs.length ∧ i = .int .i64 k ∧ Hid (priv xs = priv (xs.drop k)) ∧ Hid (Below w.heap.size w wr)) (fun i _ => xs.length - (intOf i).toNat)
  case atStart => exact ⟨0, Nat.zero_le _, rfl, rfl, Below.refl _ _⟩
  case round =>
    obtain ⟨k, hk, rfl, hE, hB⟩ := hrel
    by_cases hlt : k < xs.length
    · have HC : Hid (wr.rangeAt g (k * 28) (rcells xs[k])) := fun j v hv => (hB.out.cell hg).trans (HR.out k hlt j v hv)
      have HD : Hid (priv xs = (!xs[k] || priv (xs.drop (k + 1)))) := by
        rw [Hid, hE.out, List.drop_eq_getElem_cons hlt]
        rfl
      generalize xs[k] = y at HC HD
      have i1 : (0 : Int) ≤ (k : Int) := by omega
      have i2 : (k : Int) < (xs.length : Int) := by omega
      clear hE
      go_wp2_with (with_reducible (show wpList _ _ _ (Oper.mk _ (Op.load 42 _) _ _ _ _ :: _) _ _); refine wpList_load_mid rfl 42 _ rfl g (k * 28) rfl (rcells y) _ HC.out Try.underlying42 rfl (Try.size42.trans (by rw [rcells_len])) ?_)
      refine (isPriv y wr).mono ?_
      rintro e X ⟨rfl, hb⟩
      have HB : Hid (Below w.heap.size w X) := hB.out.trans (hb.mono hB.out.size)
      clear hb hB HC
      cases y
      · have HP : Hid (priv xs = true) := by rw [Hid, HD.out]; rfl
        clear HD
        go_wp2_with fail
        go_ret
        exact ⟨⟨k, rfl, by rw [HP.out]; simp⟩, HB.out⟩
      · have HP : Hid (priv xs = priv (xs.drop (k + 1))) := by rw [Hid, HD.out]; rfl
        clear HD
        go_wp2_with fail
        go_roundw
        case rel => exact ⟨k + 1, by omega, by go_num, HP, HB⟩
        case measure => simp [intOf]; omega
    · have hkk : k = xs.length := by omega
      have HE : Hid (priv xs = false) := by rw [Hid, hE.out, hkk, List.drop_length]; rfl
      clear hkk hE
      go_wp2_with fail
      go_ret
      exact ⟨⟨-1, rfl, by rw [HE.out]; rfl⟩, hB.out⟩

set_option maxRecDepth 20000 in
theorem first_any {fb : Nat} {flag : Bool} {xs : List Bool} (w : World) (h : FileAt w fb flag xs) (hn : xs.length ≤ 65536) :
    Calls Try.prog 18 #[.pointer (some ⟨fb, 0, none⟩)] w fun e w' => IdxSays e xs ∧ Below w.heap.size w w' := by
  obtain ⟨g, r1, r2, r3⟩ := h.routes
  have HI := hide (indexFunc g xs w r2 r3 hn)
  clear h r2 r3
  go_enter Try.func18, Try.ntmps18
  go_wp2_with fail
  refine HI.out.mono ?_
  rintro e X ⟨⟨r, rfl, hr⟩, hb⟩
  have HR : Hid (decide (0 ≤ r) = priv xs) := hr
  clear hr
  go_wp2_with fail
  go_ret
  exact ⟨⟨r, rfl, HR.out⟩, hb⟩

theorem needs_any {fb : Nat} {flag : Bool} {xs : List Bool} (w : World) (h : FileAt w fb flag xs) (hn : xs.length ≤ 65536) :
    Calls Try.prog 9 #[.pointer (some ⟨fb, 0, none⟩)] w fun e w' => e = .returned (.bool (priv xs)) ∧ Below w.heap.size w w' := by
  have HI := hide (first_any w h hn)
  clear h
  go_enter Try.func9, Try.ntmps9
  go_wp2_with fail
  refine HI.out.mono ?_
  rintro e X ⟨⟨r, rfl, hr⟩, hb⟩
  have HR : Hid (decide (0 ≤ r) = priv xs) := hr
  clear hr
  go_wp2_with fail
  go_ret
  exact ⟨by rw [← HR.out]; rfl, hb⟩
end Go.Proofs.Qxb6614736a
