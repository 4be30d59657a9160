/- The walks that write the database: put, change, Set without a deadline, ZZnewDB, ZZputSet. -/
import Derived.Test.Qxb6615097aDb
import Derived.Deep.RegionHeld3
import Derived.Deep.DeepCutAuto
namespace Go.Proofs.Qxb6615097a
open Go.RowKit
open Go.Maps (Keyed string_keyed)
open Go.WideMaps (keyOf_string_mk)

def upd {α : Type} (E : List UInt8 → Option α) (k : List UInt8) (e : α) : List UInt8 → Option α := fun k' => if k' = k then some e else E k'

theorem upd_same {α : Type} (E : List UInt8 → Option α) (k : List UInt8) (e : α) : upd E k e k = some e := by simp [upd]
theorem upd_other {α : Type} (E : List UInt8 → Option α) {k k' : List UInt8} (e : α) (h : k' ≠ k) : upd E k e k' = E k' := by simp [upd, h]
theorem upd_self {α : Type} {E : List UInt8 → Option α} {k : List UInt8} {e : α} (h : E k = some e) : upd E k e = E := by
  funext k'
  by_cases hk : k' = k
  · subst hk; simp [upd, h]
  · simp [upd, hk]

theorem KeyMap.of_block {w w' : World} {mb n : Nat} {M : List UInt8 → Option Nat} (h : KeyMap w mb n M) (hb : w'.heap[mb]? = w.heap[mb]?) : KeyMap w' mb n M := by
  obtain ⟨D, ⟨es, clock, h1, h2⟩, hD⟩ := h
  exact ⟨D, ⟨es, clock, hb.trans h1, h2⟩, hD⟩

theorem KeyMap.lt {w : World} {mb n : Nat} {M : List UInt8 → Option Nat} (h : KeyMap w mb n M) : mb < w.heap.size := by
  obtain ⟨D, ho, _⟩ := h
  exact ho.lt

theorem KeyMap.mono {w : World} {mb n n' : Nat} {M : List UInt8 → Option Nat} (h : KeyMap w mb n M) (hn : n ≤ n') : KeyMap w mb n' M := by
  obtain ⟨D, ho, hD⟩ := h
  exact ⟨D, ho.mono hn, hD⟩

theorem KeyMap.isMap {w : World} {mb n : Nat} {M : List UInt8 → Option Nat} (h : KeyMap w mb n M) : ∃ es clock, w.heap[mb]? = some (.map es clock) := by
  obtain ⟨D, ⟨es, clock, h1, _⟩, _⟩ := h
  exact ⟨es, clock, h1⟩

theorem isKeyLit (k : List UInt8) : WideAt.IsKeyLit (.string k) := by trivial

/-- 'm[k] = p'. -/
theorem KeyMap.put {w : World} {mb n : Nat} {M : List UInt8 → Option Nat} (h : KeyMap w mb n M) (k : List UInt8) (hk : k.length ≤ maxLen) (hn : n < maxLen) (b : Nat) :
    ∃ w', (Instr.mapUpdate 70 (.map (some mb)) (.string (str k)) (.pointer (some ⟨b, 0, none⟩))).run Try.prog w = .ok () w' ∧ KeyMap w' mb (n + 1) (upd M k b) ∧ w.grownBy w' (some mb) := by
  obtain ⟨D, ho, hD⟩ := h
  obtain ⟨w', hrun, ho', hg⟩ := ho.update law9 Try.underlying70 hn (keyOf_string_mk Try.underlying9 (s := str k) hk) (val := .pointer (some ⟨b, 0, none⟩)) (d := .lit (.int .i64 (b : Int))) (ps := []) rfl
  refine ⟨w', hrun, ⟨_, ho', fun k' => ?_⟩, hg⟩
  rw [str_list]
  by_cases hkk : k' = k
  · subst hkk
    rw [Maps.atKey_put_same ho.isMap (isKeyLit _), Maps.has_put_same ho.isMap (isKeyLit _), upd_same]
    exact ⟨rfl, rfl⟩
  · have hne : Lit.string k' ≠ Lit.string k := fun e => hkk (Lit.string.inj e)
    rw [Maps.atKey_put_other hne, Maps.has_put_other hne, upd_other _ _ hkk]
    exact hD k'

theorem ownsRow_blocks {w w' : World} {base : Nat} {e : TypeId} {size : Nat} {v : Value} {n : Nat} {xs : List Value} (h : w.ownsRow base e size v n xs)
    (hk : ∀ (g : Nat) (cur : Array Value), base ≤ g → w.heap[g]? = some (.cells cur e (0, 0)) → w'.heap[g]? = some (.cells cur e (0, 0))) : w'.ownsRow base e size v n xs := by
  obtain ⟨h1, h2⟩ := h
  refine ⟨h1, ?_⟩
  rcases h2 with h2 | ⟨g, cap, cur, hv, hg, hh, r⟩
  · exact Or.inl h2
  · exact Or.inr ⟨g, cap, cur, hv, hg, hk g cur hg hh, r⟩

theorem lt_of_some {w : World} {b : Nat} {o : Obj} (h : w.heap[b]? = some o) : b < w.heap.size := (Array.getElem?_eq_some_iff.1 h).1

section
variable {B n : Nat} {w w' : World} {db mb : Nat} {dv : Value} {E : List UInt8 → Option Ent} {hp : List (List UInt8)}

/-- Nothing of the database has turned: new blocks alone. -/
theorem DBI.later (h : DBI B n w db mb dv E hp) (hb : Below w.heap.size w w') : DBI B n w' db mb dv E hp where
  low := h.low
  low' := h.low'
  head := (hb.block _ (lt_of_some h.head)).trans h.head
  keys := h.keys.of_block (hb.block _ h.keys.lt)
  row := ownsRow_blocks h.row fun g cur _ hg => (hb.block _ (lt_of_some hg)).trans hg
  ent := fun k e hE => by
    obtain ⟨⟨v, c, h1, h2, h3⟩, h4⟩ := h.ent k e hE
    exact ⟨⟨v, c, (hb.block _ (lt_of_some h1)).trans h1, h2.keep (Keep5.of_below hb), h3⟩, h4⟩
  nodup := h.nodup
  mem := h.mem

theorem DBI.mono (h : DBI B n w db mb dv E hp) {n' : Nat} (hn : n ≤ n') : DBI B n' w db mb dv E hp :=
  ⟨h.low, h.low', h.head, h.keys.mono hn, h.row, h.ent, h.nodup, h.mem⟩

/-- Two keys of one entry are one. -/
theorem DBI.key_inj (h : DBI B n w db mb dv E hp) {k k' : List UInt8} {e e' : Ent} (h1 : E k = some e) (h2 : E k' = some e') (hb : e.blk = e'.blk) : k = k' := by
  obtain ⟨⟨v, c, a1, _⟩, _⟩ := h.ent k e h1
  obtain ⟨⟨v', c', a2, _⟩, _⟩ := h.ent k' e' h2
  rw [hb, a2] at a1
  simp [ecells] at a1
  exact (str_inj a1.1).symm

/-- One entry has turned. -/
theorem DBI.turn (h : DBI B n w db mb dv E hp) {k0 : List UInt8} {e0 : Ent} (hE : E k0 = some e0) (hs : ∀ b, b < w.heap.size → b ≠ e0.blk → w'.heap[b]? = w.heap[b]?)
    {v c : Value} {dl : Int} {val : Option (List UInt8)} {s : Bool} (hb : w'.heap[e0.blk]? = some (.cells (ecells k0 v c dl (pos hp k0)) 82 (0, 0))) (hv : BV w v val) (hc : CollAt c s) :
    DBI B n w' db mb dv (upd E k0 ⟨e0.blk, val, s, dl⟩) hp ∧ Keep5 w w' := by
  obtain ⟨⟨v0, c0, a0, _, _⟩, hB0, hl0⟩ := h.ent k0 e0 hE
  have k5 : Keep5 w w' := fun b cs fz e => by
    refine (hs b (lt_of_some e) ?_).trans e
    rintro rfl
    rw [a0] at e
    simp at e
  refine ⟨⟨h.low, h.low', ?_, ?_, ?_, ?_, h.nodup, ?_⟩, k5⟩
  · refine (hs _ (lt_of_some h.head) ?_).trans h.head
    intro e
    have := h.head
    rw [e, a0] at this
    simp at this
  · have hM : (fun k => (upd E k0 ⟨e0.blk, val, s, dl⟩ k).map (·.blk)) = fun k => (E k).map (·.blk) := by
      funext k
      by_cases hk : k = k0
      · subst hk; simp [upd, hE]
      · simp [upd, hk]
    rw [hM]
    refine h.keys.of_block (hs _ h.keys.lt ?_)
    intro e
    obtain ⟨es, clock, hm⟩ := h.keys.isMap
    rw [e, a0] at hm
    simp at hm
  · have hH : hptrs (upd E k0 ⟨e0.blk, val, s, dl⟩) hp = hptrs E hp := by
      unfold hptrs
      apply List.map_congr_left
      intro k _
      by_cases hk : k = k0
      · subst hk; simp [upd, hE]
      · simp [upd, hk]
    rw [hH]
    refine ownsRow_blocks h.row fun g cur _ hg => (hs _ (lt_of_some hg) ?_).trans hg
    rintro rfl
    rw [a0] at hg
    simp at hg
  · intro k e hk
    by_cases hkk : k = k0
    · subst hkk
      rw [upd_same] at hk
      cases hk
      exact ⟨⟨v, c, hb, hv.keep k5, hc⟩, hB0, hl0⟩
    · rw [upd_other _ _ hkk] at hk
      obtain ⟨⟨v1, c1, b1, b2, b3⟩, b4⟩ := h.ent k e hk
      refine ⟨⟨v1, c1, (hs _ (lt_of_some b1) ?_).trans b1, b2.keep k5, b3⟩, b4⟩
      intro e1
      exact hkk (h.key_inj hk hE e1)
  · intro k hk
    by_cases hkk : k = k0
    · subst hkk; simp [upd]
    · rw [upd_other _ _ hkk]; exact h.mem k hk

theorem pos_out {hp : List (List UInt8)} {k : List UInt8} (h : k ∉ hp) : pos hp k = -1 := by
  unfold pos
  rw [List.idxOf?_eq_none_iff.2 h]

/-- One entry is new. -/
theorem DBI.fresh (h : DBI B n w db mb dv E hp) {k0 : List UInt8} (hE : E k0 = none) (hk0 : k0.length ≤ 1048576) (hs : ∀ b, b < w.heap.size → b ≠ mb → w'.heap[b]? = w.heap[b]?) {nb : Nat} (hB : B ≤ nb)
    (hkm : KeyMap w' mb (n + 1) (upd (fun k => (E k).map (·.blk)) k0 nb)) {c : Value} {s : Bool} (hb : w'.heap[nb]? = some (.cells (ecells k0 (.slice none 0 0) c 0 (-1)) 82 (0, 0))) (hc : CollAt c s) :
    DBI B (n + 1) w' db mb dv (upd E k0 ⟨nb, none, s, 0⟩) hp ∧ Keep5 w w' := by
  obtain ⟨es, clock, hm⟩ := h.keys.isMap
  have hout : k0 ∉ hp := fun hm => by have := h.mem _ hm; simp [hE] at this
  have k5 : Keep5 w w' := fun b cs fz e => by
    refine (hs b (lt_of_some e) ?_).trans e
    rintro rfl
    rw [hm] at e
    simp at e
  refine ⟨⟨h.low, h.low', ?_, ?_, ?_, ?_, h.nodup, ?_⟩, k5⟩
  · refine (hs _ (lt_of_some h.head) ?_).trans h.head
    intro e
    have := h.head
    rw [e, hm] at this
    simp at this
  · have hM : (fun k => (upd E k0 ⟨nb, none, s, 0⟩ k).map (·.blk)) = upd (fun k => (E k).map (·.blk)) k0 nb := by
      funext k
      by_cases hk : k = k0
      · subst hk; simp [upd]
      · simp [upd, hk]
    rw [hM]
    exact hkm
  · have hH : hptrs (upd E k0 ⟨nb, none, s, 0⟩) hp = hptrs E hp := by
      unfold hptrs
      apply List.map_congr_left
      intro k hk
      have : k ≠ k0 := fun e => hout (e ▸ hk)
      simp [upd, this]
    rw [hH]
    refine ownsRow_blocks h.row fun g cur _ hg => (hs _ (lt_of_some hg) ?_).trans hg
    rintro rfl
    rw [hm] at hg
    simp at hg
  · intro k e hk
    by_cases hkk : k = k0
    · subst hkk
      rw [upd_same] at hk
      cases hk
      exact ⟨⟨_, c, by rw [pos_out hout]; exact hb, .inl ⟨rfl, rfl⟩, hc⟩, hB, hk0⟩
    · rw [upd_other _ _ hkk] at hk
      obtain ⟨⟨v1, c1, b1, b2, b3⟩, b4⟩ := h.ent k e hk
      refine ⟨⟨v1, c1, (hs _ (lt_of_some b1) ?_).trans b1, b2.keep k5, b3⟩, b4⟩
      intro e1
      rw [e1, hm] at b1
      simp at b1
  · intro k hk
    have : k ≠ k0 := fun e => hout (e ▸ hk)
    rw [upd_other _ _ this]; exact h.mem k hk
end

/-- 'd.change(e)': no snapshot is open. -/
theorem change_any {w : World} {db : Nat} {p : Value} (c2 : w.cell? ⟨db, 2, none⟩ = some (.pointer none)) :
    Calls Try.prog 46 #[.pointer (some ⟨db, 0, none⟩), p] w fun e w' => e = .returned (.tuple #[]) ∧ w' = w := by
  go_enter Try.func46, Try.ntmps46
  go_wp2
  refine bodyPost_ret (results_none rfl _ _ _) rfl ?_
  exact ⟨rfl, rfl⟩

set_option maxHeartbeats 400000 in
theorem put_old {B n : Nat} {w : World} {db mb : Nat} {dv : Value} {E : List UInt8 → Option Ent} {hp : List (List UInt8)} (h : DBI B n w db mb dv E hp) {kv : Value} {l : Option (List UInt8)} (hk : BV w kv l) {e0 : Ent} (hE : E (bts l) = some e0) :
    Calls Try.prog 42 #[.pointer (some ⟨db, 0, none⟩), kv] w fun e w' => e = .returned (.pointer (some ⟨e0.blk, 0, none⟩)) ∧ ∃ m, w' = w.drewN m := by
  have hn := hk.len
  have hcv := hk.conv
  have hlk := h.look (bts l) (by unfold maxLen; omega)
  have c0 := h.cell0
  have c2 := h.cell2
  rw [hE] at hlk
  clear hE hk h hn
  simp only [Option.map_some, Option.isSome_some] at hlk
  go_enter Try.func42, Try.ntmps42
  go_wp2
  go_quiet (fail)
  go_wp2_with (go_at_call 46; refine (change_any ?_).mono ?_; exact c2; rintro e w' ⟨rfl, rfl⟩)
  go_ret
  exact ⟨rfl, _, rfl⟩

set_option maxHeartbeats 400000 in
theorem put_new {B n : Nat} {w : World} {db mb : Nat} {dv : Value} {E : List UInt8 → Option Ent} {hp : List (List UInt8)} (h : DBI B n w db mb dv E hp) (hnn : n < 1048576) {kv : Value} {l : Option (List UInt8)} (hk : BV w kv l) (hE : E (bts l) = none) :
    Calls Try.prog 42 #[.pointer (some ⟨db, 0, none⟩), kv] w fun e w' => e = .returned (.pointer (some ⟨w.heap.size, 0, none⟩)) ∧ DBI B (n + 1) w' db mb dv (upd E (bts l) ⟨w.heap.size, none, false, 0⟩) hp ∧ Fr B w w' := by
  have hn := hk.len
  have hcv := hk.conv
  have hlk := h.look (bts l) (by unfold maxLen; omega)
  have c0 := h.cell0
  have c2 := h.cell2
  have H := hide h
  rw [hE] at hlk
  clear h
  simp only [Option.map_none, Option.isSome_none] at hlk
  have hlt : db < w.heap.size := lt_of_some H.out.head
  have c2' : ∀ m o, ((w.drewN m).alloc o).cell? ⟨db, 2, none⟩ = some (.pointer none) := fun m o => by rw [World.cell?_alloc_lt _ _ _ (by exact hlt)]; exact c2
  have c0' : ∀ m o, ((w.drewN m).alloc o).cell? ⟨db, 0, none⟩ = some (.map (some mb)) := fun m o => by rw [World.cell?_alloc_lt _ _ _ (by exact hlt)]; exact c0
  have HE := hide hE
  have HK := hide hk
  clear hE hk
  go_enter Try.func42, Try.ntmps42
  go_wp2
  go_quiet (fail)
  go_wp2
  generalize hX : World.alloc (w.drewN nq) (.cells #[.string (str (bts l)), .slice none 0 0, .nilIface, .int .i64 0, .int .i64 (-1), .int .u64 0] 82) = X
  have x0 : X.cell? ⟨db, 0, none⟩ = some (.map (some mb)) := by rw [← hX]; exact c0' _ _
  have xk : X.cell? ⟨w.heap.size, 0, none⟩ = some (.string (str (bts l))) := by
    rw [← hX]
    simp [World.cell?, World.alloc]
  have HXb : Hid (Below w.heap.size w X) := by rw [← hX]; exact (show Below w.heap.size w ((w.drewN nq).alloc _) from ((Fr.drewN _ w nq).1.alloc (Nat.le_refl _) _))
  have HXn : Hid (X.heap[w.heap.size]? = some (.cells (ecells (bts l) (.slice none 0 0) .nilIface 0 (-1)) 82 (0, 0))) := by rw [← hX]; exact heap_alloc_new _ _
  obtain ⟨X', hup, hkm, hgr⟩ := KeyMap.put (w := X.drew) (H.out.keys.of_block (w' := X.drew) (HXb.out.block _ H.out.keys.lt)) (bts l) (by unfold maxLen; omega) (by unfold maxLen; omega) w.heap.size
  have HKM := hide hkm
  have HGR := hide hgr
  clear hkm hgr c0' c2' c0 c2 hlk hcv hX
  go_region
  go_wp2
  go_ret
  refine ⟨rfl, ?_⟩
  have hXs : w.heap.size < X.heap.size := lt_of_some HXn.out
  have hmlt := H.out.keys.lt
  have hBs : B ≤ w.heap.size := Nat.le_trans H.out.low (Nat.le_of_lt hlt)
  obtain ⟨r1, r2⟩ := H.out.fresh (w' := X') HE.out hn (fun b hb hne => (HGR.out.block b (show b < X.heap.size by omega) (by simpa using hne)).trans (HXb.out.block b hb)) hBs HKM.out
    ((HGR.out.block w.heap.size hXs (by simp; omega)).trans HXn.out) (.inl ⟨rfl, rfl⟩)
  refine ⟨r1, (HXb.out.mono hBs).drew.grown HGR.out (Nat.le_trans hBs (Nat.le_of_lt hXs)) (fun k hk => ?_), r2⟩
  cases hk
  exact H.out.low'
end Go.Proofs.Qxb6615097a
