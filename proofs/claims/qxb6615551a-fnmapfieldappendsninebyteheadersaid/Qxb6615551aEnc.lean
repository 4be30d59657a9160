/- The encoder: a buffer that the call itself owns; AppendUint16, AppendUint32, field, i32, mapField. -/
import Derived.Test.Qxb6615551aProg
import Derived.WalkKit
import Derived.WalkSpells
import Derived.WalkLawsBesides
import Derived.Deep.QuietTactic
import Derived.BigQuiet
import Derived.Deep.AppendLies
import Derived.Deep.RegionHeld3
import Derived.Deep.DrawnRows
namespace Go.Proofs.Qxb6615551a
open Go.RowKit

theorem hide {p : Prop} (h : p) : Hid p := h

theorem Try.info5 : (Try.prog.info? 5).map (fun i => (i.zero, i.size, i.bytes)) = some (some (.int .u8 0), 1, 1) := by kernel_rfl

/-- Bytes as cells. -/
def bc (ns : List Int) : List Value := ns.map (Value.int .u8)
theorem bc_length (ns : List Int) : (bc ns).length = ns.length := by simp [bc]
theorem bc_append (a b : List Int) : bc (a ++ b) = bc a ++ bc b := by simp [bc]

theorem own_shape {w : World} {B e n : Nat} {v : Value} {xs : List Value} (h : w.ownsRow B e 1 v n xs) : ∃ p cap, v = .slice p n cap := by
  obtain ⟨_, h2⟩ := h
  rcases h2 with ⟨h2, h3⟩ | ⟨g, cap, cur, hv, _⟩
  · exact ⟨none, 0, by rw [h2, h3]⟩
  · exact ⟨_, _, hv⟩

/-- Of what was there, only blocks in S have turned. -/
structure Fx (w w' : World) (S : Nat → Prop) : Prop where
  os : w'.os = w.os
  tape : w'.tape = w.tape
  output : w'.output = w.output
  size : w.heap.size ≤ w'.heap.size
  block : ∀ k, k < w.heap.size → ¬ S k → w'.heap[k]? = w.heap[k]?

theorem Fx.refl (w : World) (S : Nat → Prop) : Fx w w S := ⟨rfl, rfl, rfl, Nat.le_refl _, fun _ _ _ => rfl⟩
theorem Fx.trans {a b c : World} {S T : Nat → Prop} (h : Fx a b S) (k : Fx b c T) (hT : ∀ i, i < a.heap.size → T i → S i) : Fx a c S :=
  ⟨k.os.trans h.os, k.tape.trans h.tape, k.output.trans h.output, Nat.le_trans h.size k.size, fun i hi hS => (k.block i (Nat.lt_of_lt_of_le hi h.size) (fun t => hS (hT i hi t))).trans (h.block i hi hS)⟩
theorem Fx.of_grown {w w' : World} {r : Option Nat} (h : w.grownBy w' r) : Fx w w' (fun k => some k = r) := ⟨h.os, h.tape, h.output, h.size, h.block⟩
theorem Fx.alloc {w w' : World} {S : Nat → Prop} (h : Fx w w' S) (o : Obj) : Fx w (w'.alloc o) S :=
  ⟨h.os, h.tape, h.output, Nat.le_trans h.size (by simp), fun k hk hS => (Below.heap_alloc _ _ _ (Nat.lt_of_lt_of_le hk h.size)).trans (h.block k hk hS)⟩
theorem Fx.drew {w w' : World} {S : Nat → Prop} (h : Fx w w' S) : Fx w w'.drew S := ⟨h.os, h.tape, h.output, h.size, h.block⟩
theorem Fx.setCell {w w' : World} {S : Nat → Prop} (h : Fx w w' S) {a : Addr} (ha : a.block < w.heap.size → S a.block) (u : Value) : Fx w (w'.setCell a u) S :=
  ⟨h.os, h.tape, h.output, by simpa [World.setCell] using h.size, fun k hk hS => by
    rw [Below.heap_setCell _ _ _ _ (fun e => hS (by rw [e]; exact ha (by rw [← e]; exact hk)))]
    exact h.block k hk hS⟩
theorem Fx.mono {w w' : World} {S T : Nat → Prop} (h : Fx w w' S) (hT : ∀ k, k < w.heap.size → S k → T k) : Fx w w' T := ⟨h.os, h.tape, h.output, h.size, fun k hk hS => h.block k hk (fun s => hS (hT k hk s))⟩

/-- Where the new slice lies: in the old one's row, or in a block that is new. -/
def Loc (w : World) (v v' : Value) : Prop := v'.ownBlock = v.ownBlock ∨ ∃ g, v'.ownBlock = some g ∧ w.heap.size ≤ g

set_option maxHeartbeats 400000 in
theorem app32 {B n : Nat} {xs : List Value} {v : Value} (x : Int) (h0 : 0 ≤ x) (h1 : x < 4294967296) (w : World) (ho : w.ownsRow B 5 1 v n xs) (hn : n ≤ 2097152) (hB : B ≤ w.heap.size) :
    Calls Try.prog 17 #[.agg #[], v, .int .u32 x] w fun e w' => ∃ g cap, e = .returned (.slice (some ⟨g, 0, none⟩) (n + 4) cap) ∧ w'.ownsRow B 5 1 (.slice (some ⟨g, 0, none⟩) (n + 4) cap) (n + 4) (xs ++ bc [x / 16777216, x / 65536 % 256, x / 256 % 256, x % 256]) ∧ Fx w w' (fun k => some k = v.ownBlock) ∧ Loc w v (.slice (some ⟨g, 0, none⟩) (n + 4) cap) := by
  obtain ⟨i0, hi, hz0, hz1, hz2⟩ := info_parts Try.info5
  obtain ⟨p, cap0, rfl⟩ := own_shape ho
  have HO : Hid (((w.alloc (.cells #[] 44)).alloc (.cells #[.int .u8 (x / 16777216), .int .u8 (x / 65536 % 256), .int .u8 (x / 256 % 256), .int .u8 (x % 256)] 5)).ownsRow B 5 1 (.slice p n cap0) n xs) := (ho.alloc _).alloc _
  clear ho
  go_enter Try.func17, Try.ntmps17
  go_wp2_with (at_builtin; refine wpList_append_lies _ rfl _ _ 22 rfl B 5 i0 (.int .u8 0) 1 1 Try.underlying22 hi hz0 hz1 hz2 rfl (by decide) _ _ _ rfl HO.out ⟨w.heap.size + 1, 0, none⟩ 4 4 (bc [x / 16777216, x / 65536 % 256, x / 256 % 256, x % 256]) rfl rfl ?c1 ?c2 (by decide) ?c3 ?c4 ?c5 (w.heap.size + 2) ?c6 ?_)
  case c1 => exact World.news_of_block (B := w.heap.size + 1) (by have := heap_alloc_new (w.alloc (.cells #[] 44)) (.cells #[.int .u8 (x / 16777216), .int .u8 (x / 65536 % 256), .int .u8 (x / 256 % 256), .int .u8 (x % 256)] 5); simpa using this)
  case c2 => intro u hu; simp [bc] at hu; rcases hu with rfl | rfl | rfl | rfl <;> rfl
  case c3 => unfold maxLen; omega
  case c4 => omega
  case c5 => simp; omega
  case c6 => simp
  intro g cap w2 hown hgrow hloc _
  have HR := hide hown
  have HG := hide hgrow
  have HLoc := hide hloc
  clear hown hgrow hloc
  go_wp2_with fail
  go_ret
  refine ⟨g, cap, rfl, HR.out, (((Fx.refl w _).alloc _).alloc _).trans (Fx.of_grown HG.out) (fun _ _ t => t), ?_⟩
  rcases HLoc.out with h | h
  · exact .inl h.symm
  · exact .inr ⟨g, rfl, by omega⟩

set_option maxHeartbeats 400000 in
theorem app16 {B n : Nat} {xs : List Value} {v : Value} (x : Int) (h0 : 0 ≤ x) (h1 : x < 65536) (w : World) (ho : w.ownsRow B 5 1 v n xs) (hn : n ≤ 2097152) (hB : B ≤ w.heap.size) :
    Calls Try.prog 19 #[.agg #[], v, .int .u16 x] w fun e w' => ∃ g cap, e = .returned (.slice (some ⟨g, 0, none⟩) (n + 2) cap) ∧ w'.ownsRow B 5 1 (.slice (some ⟨g, 0, none⟩) (n + 2) cap) (n + 2) (xs ++ bc [x / 256, x % 256]) ∧ Fx w w' (fun k => some k = v.ownBlock) ∧ Loc w v (.slice (some ⟨g, 0, none⟩) (n + 2) cap) := by
  obtain ⟨i0, hi, hz0, hz1, hz2⟩ := info_parts Try.info5
  obtain ⟨p, cap0, rfl⟩ := own_shape ho
  have HO : Hid (((w.alloc (.cells #[] 44)).alloc (.cells #[.int .u8 (x / 256), .int .u8 (x % 256)] 5)).ownsRow B 5 1 (.slice p n cap0) n xs) := (ho.alloc _).alloc _
  clear ho
  go_enter Try.func19, Try.ntmps19
  go_wp2_with (at_builtin; refine wpList_append_lies _ rfl _ _ 22 rfl B 5 i0 (.int .u8 0) 1 1 Try.underlying22 hi hz0 hz1 hz2 rfl (by decide) _ _ _ rfl HO.out ⟨w.heap.size + 1, 0, none⟩ 2 2 (bc [x / 256, x % 256]) rfl rfl ?c1 ?c2 (by decide) ?c3 ?c4 ?c5 (w.heap.size + 2) ?c6 ?_)
  case c1 => exact World.news_of_block (B := w.heap.size + 1) (by have := heap_alloc_new (w.alloc (.cells #[] 44)) (.cells #[.int .u8 (x / 256), .int .u8 (x % 256)] 5); simpa using this)
  case c2 => intro u hu; simp [bc] at hu; rcases hu with rfl | rfl <;> rfl
  case c3 => unfold maxLen; omega
  case c4 => omega
  case c5 => simp; omega
  case c6 => simp
  intro g cap w2 hown hgrow hloc _
  have HR := hide hown
  have HG := hide hgrow
  have HLoc := hide hloc
  clear hown hgrow hloc
  go_wp2_with fail
  go_ret
  refine ⟨g, cap, rfl, HR.out, (((Fx.refl w _).alloc _).alloc _).trans (Fx.of_grown HG.out) (fun _ _ t => t), ?_⟩
  rcases HLoc.out with h | h
  · exact .inl h.symm
  · exact .inr ⟨g, rfl, by omega⟩
end Go.Proofs.Qxb6615551a
