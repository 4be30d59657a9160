/- The deadline heap's Pop and Push. -/
import Derived.Test.Qxb6615097aHeap
namespace Go.Proofs.Qxb6615097a
open Go.RowKit

section
variable {B n : Nat} {w w' : World} {db mb : Nat} {dv : Value} {E : List UInt8 → Option Ent} {hp : List (List UInt8)}

theorem DBI.freeDb (h : DBI B n w db mb dv E hp) (i : Nat) : w.frozen? ⟨db, i, none⟩ = false := by simp [World.frozen?, h.head]

theorem pop_mem {g cap : Nat} {cur : Array Value} (h : DBI B n w db mb (.slice (some ⟨g, 0, none⟩) hp.length cap) E hp) {k : List UInt8} {e : Ent} (h0 : 0 < hp.length) (hk : hp[hp.length - 1]? = some k) (hE : E k = some e)
    (hBg : B ≤ g) (hg : w.heap[g]? = some (.cells cur 76 (0, 0))) (hc1 : hp.length ≤ cap) (hc2 : cap ≤ 9223372036854775807) (hs : cur.size = cap) (ht : cur.toList.take hp.length = hptrs E hp)
    {v c : Value} (hb : w.heap[e.blk]? = some (.cells (ecells k v c e.dl (pos hp k)) 82 (0, 0))) :
    DBI B n (((w.setCell ⟨g, hp.length - 1, none⟩ (.pointer none)).setCell ⟨e.blk, 4, none⟩ (.int .i64 (-1))).setCell ⟨db, 1, none⟩ (.slice (some ⟨g, 0, none⟩) (hp.length - 1) cap)) db mb (.slice (some ⟨g, 0, none⟩) (hp.length - 1) cap) E hp.dropLast ∧
    Fr B w (((w.setCell ⟨g, hp.length - 1, none⟩ (.pointer none)).setCell ⟨e.blk, 4, none⟩ (.int .i64 (-1))).setCell ⟨db, 1, none⟩ (.slice (some ⟨g, 0, none⟩) (hp.length - 1) cap)) := by
  have hd := h.head
  have n1 : e.blk ≠ g := fun e => by rw [e, hg] at hb; simp at hb
  have n2 : g ≠ db := fun e => by rw [← e, hg] at hd; simp at hd
  have n3 : e.blk ≠ db := fun e => by rw [← e, hb] at hd; simp at hd
  have hBe := (h.ent _ _ hE).2.1
  have hbel : Below B w (((w.setCell ⟨g, hp.length - 1, none⟩ (.pointer none)).setCell ⟨e.blk, 4, none⟩ (.int .i64 (-1))).setCell ⟨db, 1, none⟩ (.slice (some ⟨g, 0, none⟩) (hp.length - 1) cap)) :=
    (((Below.refl B w).setCell (p := ⟨g, hp.length - 1, none⟩) hBg _).setCell (p := ⟨e.blk, 4, none⟩) hBe _).setCell (p := ⟨db, 1, none⟩) h.low _
  have hoth : ∀ b, b ≠ g → b ≠ e.blk → b ≠ db → (((w.setCell ⟨g, hp.length - 1, none⟩ (.pointer none)).setCell ⟨e.blk, 4, none⟩ (.int .i64 (-1))).setCell ⟨db, 1, none⟩ (.slice (some ⟨g, 0, none⟩) (hp.length - 1) cap)).heap[b]? = w.heap[b]? := fun b b1 b2 b3 => by
    rw [heap_set_other _ _ _ _ (by exact b3), heap_set_other _ _ _ _ (by exact b2), heap_set_other _ _ _ _ (by exact b1)]
  have hgg : (((w.setCell ⟨g, hp.length - 1, none⟩ (.pointer none)).setCell ⟨e.blk, 4, none⟩ (.int .i64 (-1))).setCell ⟨db, 1, none⟩ (.slice (some ⟨g, 0, none⟩) (hp.length - 1) cap)).heap[g]? = some (.cells (cur.setIfInBounds (hp.length - 1) (.pointer none)) 76 (0, 0)) := by
    rw [heap_set_other _ _ _ _ (by exact n2), heap_set_other _ _ _ _ (by exact Ne.symm n1)]
    exact heap_set_at' _ _ _ _ _ _ _ hg
  have hee : (((w.setCell ⟨g, hp.length - 1, none⟩ (.pointer none)).setCell ⟨e.blk, 4, none⟩ (.int .i64 (-1))).setCell ⟨db, 1, none⟩ (.slice (some ⟨g, 0, none⟩) (hp.length - 1) cap)).heap[e.blk]? = some (.cells (ecells k v c e.dl (-1)) 82 (0, 0)) := by
    rw [heap_set_other _ _ _ _ (by exact n3), heap_set_at' _ _ _ (ecells k v c e.dl (pos hp k)) 82 (0, 0) _ (by rw [heap_set_other _ _ _ _ (by exact n1)]; exact hb)]
    rfl
  have hdd : (((w.setCell ⟨g, hp.length - 1, none⟩ (.pointer none)).setCell ⟨e.blk, 4, none⟩ (.int .i64 (-1))).setCell ⟨db, 1, none⟩ (.slice (some ⟨g, 0, none⟩) (hp.length - 1) cap)).heap[db]? = some (.cells #[.map (some mb), .slice (some ⟨g, 0, none⟩) (hp.length - 1) cap, .pointer none] 75 (0, 0)) := by
    rw [heap_set_at' _ _ _ #[.map (some mb), .slice (some ⟨g, 0, none⟩) hp.length cap, .pointer none] 75 (0, 0) _ (by rw [heap_set_other _ _ _ _ (by exact Ne.symm n3), heap_set_other _ _ _ _ (by exact Ne.symm n2)]; exact hd)]
    rfl
  generalize (((w.setCell ⟨g, hp.length - 1, none⟩ (.pointer none)).setCell ⟨e.blk, 4, none⟩ (.int .i64 (-1))).setCell ⟨db, 1, none⟩ (.slice (some ⟨g, 0, none⟩) (hp.length - 1) cap)) = W at hbel hoth hgg hee hdd ⊢
  have k5 : Keep5 w W := fun b cs fz e => by
    refine (hoth b ?_ ?_ ?_).trans e
    · rintro rfl; rw [hg] at e; simp at e
    · rintro rfl; rw [hb] at e; simp at e
    · rintro rfl; rw [hd] at e; simp at e
  obtain ⟨es, clock, hm⟩ := h.keys.isMap
  refine ⟨?_, hbel, k5⟩
  refine h.rehp (w' := W) ?_ k5 hdd ?_ ?_ (dropLast_nodup h.nodup) (fun k hk => h.mem k (mem_dropLast hk))
  · refine hoth mb ?_ ?_ ?_
    · rintro rfl; rw [hg] at hm; simp at hm
    · rintro rfl; rw [hb] at hm; simp at hm
    · rintro rfl; rw [hd] at hm; simp at hm
  · rw [List.length_dropLast]
    refine ⟨by simp [hptrs], .inr ⟨g, cap, _, rfl, hBg, hgg, by omega, hc2, by simp [hs], ?_⟩⟩
    have e1 : hptrs E hp.dropLast = (hptrs E hp).take (hp.length - 1) := by unfold hptrs; rw [List.dropLast_eq_take, List.map_take]
    rw [e1, ← ht, Nat.mul_one, Array.toList_setIfInBounds, List.take_take, List.take_set]
    rw [List.set_eq_of_length_le (by simp; omega)]
    congr 1
    omega
  · intro k' e' v' c' hk' hb'
    by_cases e1 : k' = k
    · subst e1
      rw [hE] at hk'
      cases hk'
      rw [hb] at hb'
      simp only [ecells, Option.some.injEq, Obj.cells.injEq, and_true, Array.mk.injEq, List.cons.injEq, true_and] at hb'
      obtain ⟨rfl, rfl⟩ := hb'
      rw [pos_eq, posL_out (dropLast_not_mem h.nodup hk)]
      exact hee
    · rw [pos_eq, dropLast_pos h.nodup hk e1]
      refine (hoth e'.blk ?_ (h.blk_ne hk' hE e1) ?_).trans hb'
      · intro e3; rw [e3, hg] at hb'; simp at hb'
      · intro e3; rw [e3, hd] at hb'; simp at hb'

set_option maxHeartbeats 1000000 in
theorem pop_any (h : DBI B n w db mb dv E hp) {k : List UInt8} {e : Ent} (h0 : 0 < hp.length) (hk : hp[hp.length - 1]? = some k) (hE : E k = some e) :
    Calls Try.prog 83 #[.pointer (some ⟨db, 1, none⟩)] w fun r w' => r = .returned (.iface 76 (.pointer (some ⟨e.blk, 0, none⟩))) ∧ ∃ dv', DBI B n w' db mb dv' E hp.dropLast ∧ Fr B w w' := by
  obtain ⟨g, cap, cur, rfl, hBg, hg, hc1, hc2, hs, ht⟩ := h.rowAt h0
  obtain ⟨⟨v, c, hb, _, _⟩, hBe, _⟩ := h.ent _ _ hE
  have q0 := h.cell1
  have q1 := row_cell hg ht hk hE
  have q2 : w.cell? ⟨e.blk, 4, none⟩ = some (.int .i64 (pos hp k)) := by simp [World.cell?, hb, ecells]
  have f0 := h.freeDb 1
  have f1 : w.frozen? ⟨g, hp.length - 1, none⟩ = false := by simp [World.frozen?, hg]
  have f2 : w.frozen? ⟨e.blk, 4, none⟩ = false := by simp [World.frozen?, hb]
  have n1 : e.blk ≠ g := fun e => by rw [e, hg] at hb; simp at hb
  have n2 : g ≠ db := fun e => by have := h.head; rw [← e, hg] at this; simp at this
  have n3 : e.blk ≠ db := fun e => by have := h.head; rw [← e, hb] at this; simp at this
  unfold maxLen at hc2
  have H := hide h
  have HB := hide hb
  have HG := hide hg
  have HT := hide ht
  have HK := hide hk
  have HE := hide hE
  have HS := hide hs
  clear h hb hg ht hk hE hs
  go_enter Try.func83, Try.ntmps83
  go_wp2
  go_ret
  exact ⟨rfl, _, pop_mem H.out h0 HK.out HE.out hBg HG.out hc1 hc2 HS.out HT.out HB.out⟩

theorem Try.info76 : (Try.prog.info? 76).map (fun i => (i.zero, i.size, i.bytes)) = some (some (.pointer none), 1, 8) := by kernel_rfl

theorem DBI.dvShape (h : DBI B n w db mb dv E hp) : ∃ p cap, dv = .slice p hp.length cap := by
  obtain ⟨_, h2⟩ := h.row
  rcases h2 with ⟨h2, h3⟩ | ⟨g, cap, cur, hv, _⟩
  · exact ⟨none, 0, by rw [h2, h3]⟩
  · exact ⟨_, _, hv⟩

/-- The block of the heap's row is no block of another kind. -/
theorem DBI.rb_ne (h : DBI B n w db mb dv E hp) {b : Nat} {o : Obj} (hb : w.heap[b]? = some o) (ho : ∀ cur, o ≠ .cells cur 76 (0, 0)) : some b ≠ dv.ownBlock := by
  intro hx
  obtain ⟨_, h2⟩ := h.row
  rcases h2 with ⟨h2, _⟩ | ⟨g, cap, cur, hv, _, hg, _⟩
  · rw [h2] at hx
    cases hx
  · rw [hv] at hx
    simp [Value.ownBlock] at hx
    subst hx
    rw [hb] at hg
    cases hg
    exact ho cur rfl

theorem hpush_mem (h : DBI B n w db mb dv E hp) {k : List UInt8} {e : Ent} (hk : k ∉ hp) (hE : E k = some e) {v c : Value} (hb : w.heap[e.blk]? = some (.cells (ecells k v c e.dl (pos hp k)) 82 (0, 0)))
    {w2 : World} {g cap : Nat} (ho : w2.ownsRow B 76 1 (.slice (some ⟨g, 0, none⟩) (hp.length + 1) cap) (hp.length + 1) (hptrs E hp ++ [.pointer (some ⟨e.blk, 0, none⟩)]))
    (hgr : ((w.setCell ⟨e.blk, 4, none⟩ (.int .i64 (hp.length : Int))).alloc (.cells #[.pointer (some ⟨e.blk, 0, none⟩)] 76)).grownBy w2 dv.ownBlock) :
    DBI B n (w2.setCell ⟨db, 1, none⟩ (.slice (some ⟨g, 0, none⟩) (hp.length + 1) cap)) db mb (.slice (some ⟨g, 0, none⟩) (hp.length + 1) cap) E (hp ++ [k]) ∧
    Fr B w (w2.setCell ⟨db, 1, none⟩ (.slice (some ⟨g, 0, none⟩) (hp.length + 1) cap)) := by
  have hd := h.head
  have hdlt : db < w.heap.size := lt_of_some hd
  have hBs : B ≤ w.heap.size := Nat.le_trans h.low (Nat.le_of_lt hdlt)
  have n3 : e.blk ≠ db := fun e => by rw [← e, hb] at hd; simp at hd
  have hBe := (h.ent _ _ hE).2.1
  have hn := snoc_nodup h.nodup hk
  have hoth : ∀ b o, w.heap[b]? = some o → (∀ cur, o ≠ .cells cur 76 (0, 0)) → b ≠ e.blk → w2.heap[b]? = w.heap[b]? := fun b o hb1 hb2 hb3 => by
    rw [hgr.block b (by simp [World.setCell]; have := lt_of_some hb1; omega) (h.rb_ne hb1 hb2), Below.heap_alloc _ _ _ (by simpa [World.setCell] using lt_of_some hb1), heap_set_other _ _ _ _ (by exact hb3)]
  have hee : w2.heap[e.blk]? = some (.cells (ecells k v c e.dl (hp.length : Int)) 82 (0, 0)) := by
    rw [hgr.block e.blk (by simp [World.setCell]; have := lt_of_some hb; omega) (h.rb_ne hb (by simp)), Below.heap_alloc _ _ _ (by simpa [World.setCell] using lt_of_some hb), heap_set_at' _ _ _ _ _ _ _ hb]
    rfl
  have hd2 := hoth db _ hd (by simp) (Ne.symm n3)
  have hoth3 : ∀ b o, w.heap[b]? = some o → (∀ cur, o ≠ .cells cur 76 (0, 0)) → b ≠ e.blk → b ≠ db → (w2.setCell ⟨db, 1, none⟩ (.slice (some ⟨g, 0, none⟩) (hp.length + 1) cap)).heap[b]? = w.heap[b]? := fun b o hb1 hb2 hb3 hb4 => by
    rw [heap_set_other _ _ _ _ (by exact hb4)]
    exact hoth b o hb1 hb2 hb3
  have k5 : Keep5 w (w2.setCell ⟨db, 1, none⟩ (.slice (some ⟨g, 0, none⟩) (hp.length + 1) cap)) := fun b cs fz e1 => by
    refine (hoth3 b _ e1 (by simp) ?_ ?_).trans e1
    · rintro rfl; rw [hb] at e1; simp at e1
    · rintro rfl; rw [hd] at e1; simp at e1
  obtain ⟨es, clock, hm⟩ := h.keys.isMap
  refine ⟨?_, ?_, k5⟩
  · refine h.rehp ?_ k5 ?_ ?_ ?_ hn ?_
    · refine hoth3 mb _ hm (by simp) ?_ ?_
      · rintro rfl; rw [hb] at hm; simp at hm
      · rintro rfl; rw [hd] at hm; simp at hm
    · rw [heap_set_at' _ _ _ _ _ _ _ (hd2.trans hd)]
      rfl
    · have e1 : hptrs E (hp ++ [k]) = hptrs E hp ++ [.pointer (some ⟨e.blk, 0, none⟩)] := by simp [hptrs, hE]
      rw [e1, List.length_append, List.length_singleton]
      refine ownsRow_blocks ho fun g' cur _ hg' => ?_
      rw [heap_set_other _ _ _ _ (by show g' ≠ db; rintro rfl; rw [hd2, hd] at hg'; simp at hg')]
      exact hg'
    · intro k' e' v' c' hk' hb'
      by_cases e1 : k' = k
      · subst e1
        rw [hE] at hk'
        cases hk'
        rw [hb] at hb'
        simp only [ecells, Option.some.injEq, Obj.cells.injEq, and_true, Array.mk.injEq, List.cons.injEq, true_and] at hb'
        obtain ⟨rfl, rfl⟩ := hb'
        rw [pos_eq, snoc_pos_self hn, heap_set_other _ _ _ _ (by exact n3)]
        exact hee
      · rw [pos_eq, snoc_pos_other hn e1]
        refine (hoth3 e'.blk _ hb' (by simp) (h.blk_ne hk' hE e1) ?_).trans hb'
        intro e3; rw [e3, hd] at hb'; simp at hb'
    · intro k' hk'
      simp at hk'
      rcases hk' with hk' | rfl
      · exact h.mem k' hk'
      · rw [hE]; rfl
  · refine Below.setCell ?_ (p := ⟨db, 1, none⟩) h.low _
    refine Below.grown (((Below.refl B w).setCell (p := ⟨e.blk, 4, none⟩) hBe _).alloc (by simpa [World.setCell] using hBs) _) hgr (by simp [World.setCell]; omega) (fun b hb1 => ?_)
    obtain ⟨_, h2⟩ := h.row
    rcases h2 with ⟨h2, _⟩ | ⟨g', cap', cur, hv, hBg, _, _⟩
    · rw [h2] at hb1; cases hb1
    · rw [hv] at hb1
      simp [Value.ownBlock] at hb1
      omega

theorem typeAssert76 (v : Value) (w : World) : (Instr.typeAssert (.iface 76 v) 20 76 false).run Try.prog w = .ok v w := by kernel_rfl

set_option maxHeartbeats 1000000 in
theorem hpush_any (h : DBI B n w db mb dv E hp) {k : List UInt8} {e : Ent} (hl : hp.length < 1048576) (hk : k ∉ hp) (hE : E k = some e) :
    Calls Try.prog 84 #[.pointer (some ⟨db, 1, none⟩), .iface 76 (.pointer (some ⟨e.blk, 0, none⟩))] w fun r w' => r = .returned (.tuple #[]) ∧ ∃ dv', DBI B n w' db mb dv' E (hp ++ [k]) ∧ Fr B w w' := by
  obtain ⟨⟨v, c, hb, _, _⟩, hBe, _⟩ := h.ent _ _ hE
  have hd := h.head
  have q0 := h.cell1
  have q2 : w.cell? ⟨e.blk, 4, none⟩ = some (.int .i64 (pos hp k)) := by simp [World.cell?, hb, ecells]
  have f0 := h.freeDb 1
  have f2 : w.frozen? ⟨e.blk, 4, none⟩ = false := by simp [World.frozen?, hb]
  have n3 : e.blk ≠ db := fun e => by rw [← e, hb] at hd; simp at hd
  have hdlt : db < w.heap.size := lt_of_some hd
  obtain ⟨i0, hi, hz0, hz1, hz2⟩ := info_parts Try.info76
  obtain ⟨p, cap, rfl⟩ := h.dvShape
  have hBs : B ≤ w.heap.size := Nat.le_trans h.low (Nat.le_of_lt hdlt)
  have HO : Hid (((w.setCell ⟨e.blk, 4, none⟩ (.int .i64 (hp.length : Int))).alloc (.cells #[.pointer (some ⟨e.blk, 0, none⟩)] 76)).ownsRow B 76 1 (.slice p hp.length cap) hp.length (hptrs E hp)) := by
    refine World.ownsRow.alloc ?_ _
    refine ownsRow_blocks h.row fun g cur _ hg => ?_
    rw [heap_set_other _ _ _ _ (by show g ≠ e.blk; rintro rfl; rw [hb] at hg; simp at hg)]
    exact hg
  have H := hide h
  have HB := hide hb
  have HK := hide hk
  have HE := hide hE
  clear h hb hk hE hd
  have hta := typeAssert76
  go_enter Try.func84, Try.ntmps84
  go_wp2_with (at_builtin; refine wpList_append_lies _ rfl _ _ 72 rfl B 76 i0 (.pointer none) 1 8 Try.underlying72 hi hz0 hz1 hz2 rfl (by decide) _ _ _ rfl HO.out ⟨w.heap.size, 0, none⟩ 1 1 [.pointer (some ⟨e.blk, 0, none⟩)] rfl rfl ?c1 ?c2 (by decide) ?c3 ?c4 ?c5 (w.heap.size + 1) ?c6 ?_)
  case c1 =>
    have := cell_one_new (w.setCell ⟨e.blk, 4, none⟩ (.int .i64 (hp.length : Int))) (.pointer (some ⟨e.blk, 0, none⟩)) 76
    simpa [World.setCell] using this
  case c2 => intro u hu; simp at hu; subst hu; rfl
  case c3 => unfold maxLen; omega
  case c4 => omega
  case c5 => simp [World.setCell]; omega
  case c6 => simp [World.setCell]
  intro g cap' w2 hown2 hgrow _ _
  have HO2 := hide hown2
  have HGR := hide hgrow
  have hne2 : ∀ b, b < w.heap.size → some b ≠ (Value.slice p hp.length cap).ownBlock → b ≠ e.blk → w2.heap[b]? = w.heap[b]? := fun b hb1 hb2 hb3 => by
    rw [hgrow.block b (by simp [World.setCell]; omega) hb2, Below.heap_alloc _ _ _ (by simpa [World.setCell] using hb1), heap_set_other _ _ _ _ (by exact hb3)]
  have hdb2 : w2.heap[db]? = w.heap[db]? := hne2 db hdlt (H.out.rb_ne H.out.head (by simp)) (Ne.symm n3)
  have q0' : w2.cell? ⟨db, 1, none⟩ = some (.slice p hp.length cap) := (World.cell?_of_block hdb2).trans q0
  have f0' : w2.frozen? ⟨db, 1, none⟩ = false := (World.frozen?_of_block hdb2).trans f0
  have HN := hide hne2
  clear hown2 hgrow hne2 hdb2
  go_wp2
  go_end0
  exact ⟨rfl, _, hpush_mem H.out HK.out HE.out HB.out HO2.out HGR.out⟩
end
end Go.Proofs.Qxb6615097a
