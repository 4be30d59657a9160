/- The walk of ZZputSet: one statement that draws its order and makes four blocks. -/
import Derived.Test.Qxb6615097aSet
set_option linter.unusedSimpArgs false
namespace Go.Proofs.Qxb6615097a
open Go.RowKit

theorem law85 (X : World) (b : Nat) (m : ByteArray) (hm : m.size ≤ maxLen) (hb : X.heap[b]? = some (.map #[] 0)) :
    ∃ X', (Instr.mapUpdate 85 (.map (some b)) (.string m) (.int .i64 0)).run Try.prog X = .ok () X' ∧ X.grownBy X' (some b) ∧ X'.heap.size = X.heap.size := by
  have ho : X.ownsMap (H := Unit) Try.prog 9 (plainElem Try.prog 3) b 0 (.map []) := ⟨#[], 0, hb, ⟨by simp, MapKept.stamped_empty 0, by simp⟩, Nat.le_refl _, rfl⟩
  obtain ⟨X', h1, _, h2⟩ := ho.store law9 Try.underlying85 (by unfold maxLen; omega) (Go.WideMaps.keyOf_string_mk Try.underlying9 (s := m) hm) (plainElem_int Try.underlying3 (a := 0) (by decide))
  obtain ⟨_, _, _, _, _, rfl⟩ := id h2
  exact ⟨_, h1, h2.grown, by simp [ChangeMaps.setBlock]⟩

theorem choice2 {P : World → Nat → Prop} {Q : World → Nat → World → Prop} (h : ∀ X b, P X b → ∃ X', Q X b X') : ∃ G : World → Nat → World, (∀ X b, P X b → Q X b (G X b)) ∧ ∀ X b, ¬ P X b → G X b = X := by
  have h' : ∀ p : World × Nat, ∃ X', (P p.1 p.2 → Q p.1 p.2 X') ∧ (¬ P p.1 p.2 → X' = p.1) := fun p => by
    by_cases hp : P p.1 p.2
    · obtain ⟨X', hq⟩ := h _ _ hp
      exact ⟨X', fun _ => hq, fun hn => absurd hp hn⟩
    · exact ⟨p.1, fun hq => absurd hq hp, fun _ => rfl⟩
  exact ⟨fun X b => Classical.choose (h' (X, b)), fun X b => (Classical.choose_spec (h' (X, b))).1, fun X b => (Classical.choose_spec (h' (X, b))).2⟩

/-- The empty map in block b. -/
def isM : Obj → Bool
  | .map es c => es.isEmpty && c == 0
  | _ => false
def isE (X : World) (b : Nat) : Bool := match X.heap[b]? with | some o => isM o | none => false
theorem isE_iff {X : World} {b : Nat} (h : isE X b = true) : X.heap[b]? = some (.map #[] 0) := by
  unfold isE at h
  split at h
  · rename_i o ho
    rw [ho]
    unfold isM at h
    split at h
    · rename_i es c
      simp at h
      obtain ⟨rfl, rfl⟩ := h
      rfl
    · cases h
  · cases h
theorem isE_alloc (X : World) (o : Obj) (b : Nat) : isE (X.alloc o) b = if b = X.heap.size then isM o else isE X b := by
  unfold isE
  show (match (X.heap.push o)[b]? with | some o => isM o | none => false) = _
  rw [Array.getElem?_push]
  by_cases h : b = X.heap.size
  · simp [h]
  · simp [h]
theorem isE_drew (X : World) (b : Nat) : isE X.drew b = isE X b := rfl

/-- Behind w new blocks alone. -/
def After (w X : World) : Prop := Below w.heap.size w X
theorem After.alloc (w X : World) (o : Obj) (hs : w.heap.size ≤ X.heap.size) : After w (X.alloc o) = After w X := by
  apply propext
  constructor
  · intro h
    refine ⟨h.os, h.tape, h.output, hs, fun k hk => ?_⟩
    rw [← h.block k hk, Below.heap_alloc _ _ _ (by omega)]
  · intro h
    exact Below.alloc h h.size _
theorem After.drew (w X : World) : After w X.drew = After w X := propext ⟨fun h => ⟨h.os, h.tape, h.output, h.size, h.block⟩, fun h => Below.drew h⟩

theorem putSet_end {B n : Nat} {w : World} {db mb : Nat} {dv : Value} {E : List UInt8 → Option Ent} {hp : List (List UInt8)} (h : DBI B n w db mb dv E hp) {k : List UInt8} (hE : E k = none) (hn : k.length ≤ 1048576)
    {R : World → Nat → Prop} (F : World → Nat → World) (HF : ∀ X e, After w X → R X e ∧ KeyMap (F X e) mb (n + 1) (upd (fun k => (E k).map (·.blk)) k e) ∧ X.grownBy (F X e) (some mb))
    (X2 : World) (a : Addr) (e : Nat) (he : e = X2.heap.size) (hX : After w X2) :
    DBI B (n + 1) (F (X2.alloc (.cells #[.string (str k), .slice none 0 0, .iface 84 (.pointer (some a)), .int .i64 0, .int .i64 (-1), .int .u64 0] 82)) e) db mb dv (upd E k ⟨e, none, true, 0⟩) hp ∧
    Fr B w (F (X2.alloc (.cells #[.string (str k), .slice none 0 0, .iface 84 (.pointer (some a)), .int .i64 0, .int .i64 (-1), .int .u64 0] 82)) e) := by
  subst he
  have hsz := hX.size
  obtain ⟨_, hK, hg⟩ := HF (X2.alloc (.cells #[.string (str k), .slice none 0 0, .iface 84 (.pointer (some a)), .int .i64 0, .int .i64 (-1), .int .u64 0] 82)) X2.heap.size (by rw [After.alloc _ _ _ hsz]; exact hX)
  generalize F (X2.alloc (.cells #[.string (str k), .slice none 0 0, .iface 84 (.pointer (some a)), .int .i64 0, .int .i64 (-1), .int .u64 0] 82)) X2.heap.size = W at hK hg ⊢
  have hmlt := h.keys.lt
  have hBs : B ≤ w.heap.size := Nat.le_trans h.low' (Nat.le_of_lt hmlt)
  obtain ⟨r1, r2⟩ := h.fresh (w' := W) hE hn (fun b hb hne => (hg.block b (by simp; omega) (by simpa using hne)).trans ((Below.heap_alloc _ _ _ (by omega)).trans (hX.block b hb))) (Nat.le_trans hBs hsz) hK
    ((hg.block X2.heap.size (by simp) (by simp; omega)).trans (heap_alloc_new _ _)) (.inr ⟨rfl, a, rfl⟩)
  refine ⟨r1, Below.grown ((Below.mono hX hBs).alloc (Nat.le_trans hBs hsz) _) hg (by simp; omega) (fun k hk => ?_), r2⟩
  cases hk
  exact h.low'

set_option maxHeartbeats 1000000 in
theorem putSet_any {B n : Nat} {w : World} {db mb : Nat} {dv : Value} {E : List UInt8 → Option Ent} {hp : List (List UInt8)} (h : DBI B n w db mb dv E hp) (hnn : n < 1048576) {kv : Value} {l : Option (List UInt8)} (hk : BV w kv l) (hE : E (bts l) = none) (m : ByteArray) (hm : m.size ≤ maxLen) :
    Calls Try.prog 13 #[.pointer (some ⟨db, 0, none⟩), kv, .string m] w fun e w' => e = .returned (.tuple #[]) ∧ ∃ b, DBI B (n + 1) w' db mb dv (upd E (bts l) ⟨b, none, true, 0⟩) hp ∧ Fr B w w' := by
  have hmm := @run_makeMap Try.prog
  have hn := hk.len
  obtain ⟨G, hG, hG0⟩ : ∃ G : World → Nat → World, (∀ X b, isE X b = true → (Instr.mapUpdate 85 (.map (some b)) (.string m) (.int .i64 0)).run Try.prog X = .ok () (G X b) ∧ X.grownBy (G X b) (some b) ∧ (G X b).heap.size = X.heap.size) ∧ ∀ X b, ¬ isE X b = true → G X b = X :=
    choice2 fun X b hb => law85 X b m hm (isE_iff hb)
  have hG1 : ∀ X b, isE X b = true → (Instr.mapUpdate 85 (.map (some b)) (.string m) (.int .i64 0)).run Try.prog X = .ok () (G X b) := fun X b hb => (hG X b hb).1
  have hput : ∀ X e, After w X → ∃ X', (Instr.mapUpdate 70 (.map (some mb)) (.string (str (bts l))) (.pointer (some ⟨e, 0, none⟩))).run Try.prog X = .ok () X' ∧ KeyMap X' mb (n + 1) (upd (fun k => (E k).map (·.blk)) (bts l) e) ∧ X.grownBy X' (some mb) :=
    fun X e hX => (h.keys.of_block (hX.block _ h.keys.lt)).put (bts l) (by unfold maxLen; omega) (by unfold maxLen; omega) e
  obtain ⟨F, hF, _⟩ : ∃ F : World → Nat → World, (∀ X e, After w X → (Instr.mapUpdate 70 (.map (some mb)) (.string (str (bts l))) (.pointer (some ⟨e, 0, none⟩))).run Try.prog X = .ok () (F X e) ∧ KeyMap (F X e) mb (n + 1) (upd (fun k => (E k).map (·.blk)) (bts l) e) ∧ X.grownBy (F X e) (some mb)) ∧ ∀ X e, ¬ After w X → F X e = X :=
    choice2 (P := fun X _ => After w X) hput
  have hF1 : ∀ X e, After w X → (Instr.mapUpdate 70 (.map (some mb)) (.string (str (bts l))) (.pointer (some ⟨e, 0, none⟩))).run Try.prog X = .ok () (F X e) := fun X e hX => (hF X e hX).1
  have hcv : ∀ X, After w X → (convert 22 9 kv).run Try.prog X = .ok (.string (str (bts l))) X := fun X hX => (hk.keep (Keep5.of_below hX)).conv 0
  have c0 : ∀ X, After w X → X.cell? ⟨db, 0, none⟩ = some (.map (some mb)) := fun X hX => (h.later hX).cell0
  have a0 : After w w := Below.refl _ _
  have a1 := After.alloc w
  have a2 := After.drew w
  have gs : ∀ X b, (G X b).heap.size = X.heap.size := fun X b => by
    by_cases hb : isE X b = true
    · exact (hG X b hb).2.2
    · rw [hG0 X b hb]
  have a3 : ∀ X b, w.heap.size ≤ b → After w (G X b) = After w X := fun X b hw => by
    by_cases hb : isE X b = true
    · obtain ⟨_, g1, _⟩ := hG X b hb
      apply propext
      constructor
      · intro h
        have hsz := h.size
        rw [gs] at hsz
        exact ⟨h.os.symm.trans g1.os |>.symm, (h.tape.symm.trans g1.tape).symm, (h.output.symm.trans g1.output).symm, hsz, fun k hk => by rw [← h.block k hk, g1.block k (by omega) (by simp; omega)]⟩
      · intro h
        exact Below.grown h g1 h.size (by intro k hk; cases hk; exact hw)
    · rw [hG0 X b hb]
  have e1 := isE_alloc
  have e3 := isE_drew
  have e4 : isM (.map #[] 0) = true := rfl
  have l2 : ∀ k : Nat, k ≤ k + 1 + 1 := fun k => by omega
  have l3 : ∀ k : Nat, k ≤ k + 1 + 1 + 1 := fun k => by omega
  have l4 : ∀ k : Nat, k ≤ k + 1 + 1 + 1 + 1 := fun k => by omega
  have HF := hide hF
  have HG := hide hG
  have H := hide h
  have HK := hide hk
  have HE := hide hE
  clear hF hG hG0 hput h hk hE
  go_enter Try.func13, Try.ntmps13
  go_wp2
  go_region
  all_goals
    go_end0
    refine ⟨rfl, w.heap.size + 1 + 1 + 1, ?_⟩
    exact putSet_end H.out HE.out hn F HF.out _ _ _ (by simp [gs]) (by simp [a0, a1, a2, a3, gs, l2, l3, l4])
end Go.Proofs.Qxb6615097a
