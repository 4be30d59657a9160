/- The walk of Set, over whatever setDeadline does; Set without a deadline on a key that has none. -/
import Derived.Test.Qxb6615097aPut
namespace Go.Proofs.Qxb6615097a
open Go.RowKit

section
variable {B n : Nat} {w : World} {db mb : Nat} {dv : Value} {E : List UInt8 → Option Ent} {hp : List (List UInt8)}

theorem put_any (h : DBI B n w db mb dv E hp) (hnn : n < 1048576) {kv : Value} {l : Option (List UInt8)} (hk : BV w kv l) :
    Calls Try.prog 42 #[.pointer (some ⟨db, 0, none⟩), kv] w fun e w' => ∃ e1 : Ent, e = .returned (.pointer (some ⟨e1.blk, 0, none⟩)) ∧ DBI B (n + 1) w' db mb dv (upd E (bts l) e1) hp ∧ Fr B w w' ∧ e1.dl = dlOf E (bts l) := by
  cases hE : E (bts l) with
  | some e0 =>
    refine (put_old h hk hE).mono ?_
    rintro e w' ⟨rfl, m, rfl⟩
    refine ⟨e0, rfl, ?_, Fr.drewN _ _ _, by rw [dlOf, hE]⟩
    rw [upd_self hE]
    exact (h.drewN m).mono (Nat.le_succ _)
  | none =>
    refine (put_new h hnn hk hE).mono ?_
    rintro e w' ⟨rfl, h1, h2⟩
    exact ⟨_, rfl, h1, h2, by rw [dlOf, hE]⟩

theorem upd_upd {α : Type} (E : List UInt8 → Option α) (k : List UInt8) (e e' : α) : upd (upd E k e) k e' = upd E k e' := by
  funext k'
  by_cases hk : k' = k
  · simp [upd, hk]
  · simp [upd, hk]

theorem heap_set_at (w : World) (b i : Nat) (cs : Array Value) (t : TypeId) (fz : Nat × Nat) (v : Value) (h : w.heap[b]? = some (.cells cs t fz)) : (w.setCell ⟨b, i, none⟩ v).heap[b]? = some (.cells (cs.setIfInBounds i v) t fz) := by
  simp [World.setCell, Array.getElem?_modify, h]

set_option maxHeartbeats 400000 in
theorem set_with (h : DBI B n w db mb dv E hp) (hnn : n < 1048576) {kv vv : Value} {l vl : Option (List UInt8)} (hk : BV w kv l) (hv : BV w vv vl) (d : Int) (R : World → Prop)
    (SD : ∀ (w1 : World) (e1 : Ent), e1.val = vl → e1.set = false → e1.dl = dlOf E (bts l) → DBI B (n + 1) w1 db mb dv (upd E (bts l) e1) hp → Fr B w w1 →
      Calls Try.prog 43 #[.pointer (some ⟨db, 0, none⟩), .pointer (some ⟨e1.blk, 0, none⟩), .int .i64 d] w1 fun e w' => e = .returned (.tuple #[]) ∧ R w') :
    Calls Try.prog 12 #[.pointer (some ⟨db, 0, none⟩), kv, vv, .int .i64 d] w fun e w' => e = .returned (.tuple #[]) ∧ R w' := by
  have HP := hide (put_any h hnn hk)
  have HS := hide SD
  have HV := hide hv
  obtain ⟨av, hva, _⟩ := hv.shape
  subst hva
  clear SD hv h hk
  go_enter Try.func12, Try.ntmps12
  go_wp2_with fail
  refine HP.out.mono ?_
  rintro e w1 ⟨e1, rfl, h1, hf, hdl⟩
  obtain ⟨⟨v0, c0, hb, _, _⟩, _, _⟩ := h1.ent _ _ (upd_same _ _ _)
  have HB := hide hb
  have H1 := hide h1
  have HF := hide hf
  have HD := hide hdl
  have q1 : ∃ v0, w1.cell? ⟨e1.blk, 1, none⟩ = some v0 := ⟨v0, by simp [World.cell?, hb, ecells]⟩
  have q2 : ∃ v0, w1.cell? ⟨e1.blk, 2, none⟩ = some v0 := ⟨c0, by simp [World.cell?, hb, ecells]⟩
  have f1 : w1.frozen? ⟨e1.blk, 1, none⟩ = false := by simp [World.frozen?, hb]
  have f2 : w1.frozen? ⟨e1.blk, 2, none⟩ = false := by simp [World.frozen?, hb]
  obtain ⟨u1, q1⟩ := q1
  obtain ⟨u2, q2⟩ := q2
  clear hb h1 hf hdl
  go_wp2_with fail
  generalize hW : ((w1.setCell ⟨e1.blk, 1, none⟩ (Value.slice av (bts vl).length (bts vl).length)).setCell ⟨e1.blk, 2, none⟩ Value.nilIface) = W2
  have hs : ∀ b, b < w1.heap.size → b ≠ e1.blk → W2.heap[b]? = w1.heap[b]? := fun b _ hne => by
    rw [← hW, Below.heap_setCell _ _ _ _ (by exact hne), Below.heap_setCell _ _ _ _ (by exact hne)]
  have hb2 : W2.heap[e1.blk]? = some (.cells (ecells (bts l) (Value.slice av (bts vl).length (bts vl).length) .nilIface e1.dl (pos hp (bts l))) 82 (0, 0)) := by
    rw [← hW, heap_set_at _ _ _ _ _ _ _ (heap_set_at _ _ _ _ _ _ _ HB.out)]
    rfl
  obtain ⟨t1, t2⟩ := H1.out.turn (w' := W2) (upd_same _ _ _) hs hb2 (HV.out.keep HF.out.2) (s := false) (.inl ⟨rfl, rfl⟩)
  rw [upd_upd] at t1
  have hlow : B ≤ e1.blk := (H1.out.ent _ _ (upd_same _ _ _)).2.1
  have hf2 : Fr B w W2 := ⟨by rw [← hW]; exact (HF.out.1.setCell hlow _).setCell hlow _, HF.out.2.trans t2⟩
  refine (HS.out W2 ⟨e1.blk, vl, false, e1.dl⟩ rfl rfl HD.out t1 hf2).mono ?_
  rintro e w' ⟨rfl, hR⟩
  clear hs hb2 t1 t2 hlow hf2 hW
  go_wp2_with fail
  go_end0
  exact ⟨rfl, hR⟩

/-- setDeadline: no deadline is given, and the key has none. -/
theorem setDeadline_none {w1 : World} {e1 : Ent} {p : Value} (hi : w1.cell? ⟨e1.blk, 4, none⟩ = some (.int .i64 (-1))) :
    Calls Try.prog 43 #[p, .pointer (some ⟨e1.blk, 0, none⟩), .int .i64 0] w1 fun e w' => e = .returned (.tuple #[]) ∧ w' = w1 := by
  go_enter Try.func43, Try.ntmps43
  go_wp2
  go_end0
  exact ⟨rfl, rfl⟩

/-- Set without a deadline, on a key that has none. -/
theorem set_plain (h : DBI B n w db mb dv E hp) (hnn : n < 1048576) {kv vv : Value} {l vl : Option (List UInt8)} (hk : BV w kv l) (hv : BV w vv vl) (hout : bts l ∉ hp) :
    Calls Try.prog 12 #[.pointer (some ⟨db, 0, none⟩), kv, vv, .int .i64 0] w fun e w' => e = .returned (.tuple #[]) ∧ ∃ b, DBI B (n + 1) w' db mb dv (upd E (bts l) ⟨b, vl, false, dlOf E (bts l)⟩) hp ∧ Fr B w w' := by
  refine set_with h hnn hk hv 0 (fun w' => ∃ b, DBI B (n + 1) w' db mb dv (upd E (bts l) ⟨b, vl, false, dlOf E (bts l)⟩) hp ∧ Fr B w w') ?_
  intro w1 e1 h1 h2 h3 hD hF
  obtain ⟨⟨v, c, hb, _, _⟩, _, _⟩ := hD.ent _ _ (upd_same _ _ _)
  rw [pos_out hout] at hb
  refine (setDeadline_none (by simp [World.cell?, hb, ecells])).mono ?_
  rintro e w' ⟨rfl, rfl⟩
  refine ⟨rfl, e1.blk, ?_, hF⟩
  have : e1 = ⟨e1.blk, vl, false, dlOf E (bts l)⟩ := by cases e1; simp_all
  rw [this] at hD
  exact hD
end

/-- 'keyspace.ZZnewDB()'. -/
theorem newDB_any (w : World) : Calls Try.prog 11 #[] w fun e w' => e = .returned (.pointer (some ⟨w.heap.size + 1, 0, none⟩)) ∧ DBI w.heap.size 0 w' (w.heap.size + 1) w.heap.size (.slice none 0 0) (fun _ => none) [] ∧ Below w.heap.size w w' := by
  have hmm := @run_makeMap Try.prog
  go_enter Try.func11, Try.ntmps11
  go_wp2
  go_ret
  refine ⟨rfl, ⟨Nat.le_succ _, Nat.le_refl _, ?_, ?_, ?_, ?_, List.nodup_nil, ?_⟩, ?_⟩
  · have := heap_alloc_new (w.alloc (.map #[] 0)) (.cells #[.map (some w.heap.size), .slice none 0 0, .pointer none] 75)
    simpa using this
  · exact ⟨.map [], (World.ownsMap_made w _ _ _).alloc _, fun k => ⟨rfl, rfl⟩⟩
  · exact World.ownsRow_nil _ _ _ _
  · intro k e h; cases h
  · intro k h; cases h
  · exact ((Below.refl _ _).alloc (Nat.le_refl _) _).alloc (by simp) _

end Go.Proofs.Qxb6615097a
