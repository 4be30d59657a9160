/- The deadline heap's own methods: Len, Less, Swap, Push, Pop, walked over the database's memory. -/
import Derived.Test.Qxb6615097aPut
import Derived.Test.Qxb6615097aPlain
import Derived.Deep.AppendLies
namespace Go.Proofs.Qxb6615097a
open Go.RowKit

theorem pos_eq (hp : List (List UInt8)) (k : List UInt8) : pos hp k = posL hp k := rfl

theorem m_len0 (w : World) (a : Addr) : (method 246 107 (.pointer (some a)) "Len").run Try.prog w = (loadVar 72 a >>= fun v => pure (76, v)).run Try.prog w := by kernel_rfl
theorem m_less0 (w : World) (a : Addr) : (method 246 107 (.pointer (some a)) "Less").run Try.prog w = (loadVar 72 a >>= fun v => pure (77, v)).run Try.prog w := by kernel_rfl
theorem m_swap0 (w : World) (a : Addr) : (method 246 107 (.pointer (some a)) "Swap").run Try.prog w = (loadVar 72 a >>= fun v => pure (78, v)).run Try.prog w := by kernel_rfl
theorem m_push (w : World) (a : Addr) : (method 246 107 (.pointer (some a)) "Push").run Try.prog w = .ok (84, .pointer (some a)) w := by kernel_rfl
theorem m_pop (w : World) (a : Addr) : (method 246 107 (.pointer (some a)) "Pop").run Try.prog w = .ok (83, .pointer (some a)) w := by kernel_rfl
theorem m_len (w : World) (b o : Nat) (p : Option Addr) (n c : Nat) (h : w.cell? ⟨b, o, none⟩ = some (.slice p n c)) : (method 246 107 (.pointer (some ⟨b, o, none⟩)) "Len").run Try.prog w = .ok (76, .slice p n c) w := by
  rw [m_len0]; simp [go_sem, h]
theorem m_less (w : World) (b o : Nat) (p : Option Addr) (n c : Nat) (h : w.cell? ⟨b, o, none⟩ = some (.slice p n c)) : (method 246 107 (.pointer (some ⟨b, o, none⟩)) "Less").run Try.prog w = .ok (77, .slice p n c) w := by
  rw [m_less0]; simp [go_sem, h]
theorem m_swap (w : World) (b o : Nat) (p : Option Addr) (n c : Nat) (h : w.cell? ⟨b, o, none⟩ = some (.slice p n c)) : (method 246 107 (.pointer (some ⟨b, o, none⟩)) "Swap").run Try.prog w = .ok (78, .slice p n c) w := by
  rw [m_swap0]; simp [go_sem, h]

theorem len_any (w : World) (p : Option Addr) (n c : Nat) : Calls Try.prog 76 #[.slice p n c] w fun e w' => e = .returned (.int .i64 n) ∧ w = w' := by
  go_enter Try.func76, Try.ntmps76
  go_wp2
  go_ret
  exact ⟨rfl, rfl⟩

section
variable {B n : Nat} {w w' : World} {db mb : Nat} {dv : Value} {E : List UInt8 → Option Ent} {hp : List (List UInt8)}

/-- The heap's row, where it has an element. -/
theorem DBI.rowAt (h : DBI B n w db mb dv E hp) (h0 : 0 < hp.length) :
    ∃ g cap cur, dv = .slice (some ⟨g, 0, none⟩) hp.length cap ∧ B ≤ g ∧ w.heap[g]? = some (.cells cur 76 (0, 0)) ∧ hp.length ≤ cap ∧ cap ≤ maxLen ∧ cur.size = cap ∧ cur.toList.take hp.length = hptrs E hp := by
  obtain ⟨h1, h2⟩ := h.row
  rcases h2 with ⟨_, h2⟩ | ⟨g, cap, cur, hv, hg, hh, a1, a2, a3, a4⟩
  · omega
  · exact ⟨g, cap, cur, hv, hg, hh, a1, a2, by simpa using a3, by simpa using a4⟩

/-- The key at a place, its entry, the row's cell there. -/
theorem DBI.at (h : DBI B n w db mb dv E hp) {i : Nat} (hi : i < hp.length) :
    ∃ k e, hp[i]? = some k ∧ hp.getD i [] = k ∧ E k = some e ∧ EntAt w hp k e ∧ dlOf E k = e.dl := by
  have hk : hp[i]? = some hp[i] := List.getElem?_eq_getElem hi
  have hm := h.mem hp[i] (List.getElem_mem hi)
  obtain ⟨e, he⟩ := Option.isSome_iff_exists.1 hm
  exact ⟨hp[i], e, hk, by simp [hi], he, (h.ent _ _ he).1, by rw [dlOf, he]⟩

theorem row_cell {g : Nat} {cur : Array Value} (hg : w.heap[g]? = some (.cells cur 76 (0, 0))) (ht : cur.toList.take hp.length = hptrs E hp) {i : Nat} {k : List UInt8} {e : Ent} (hk : hp[i]? = some k) (he : E k = some e) :
    w.cell? ⟨g, i, none⟩ = some (.pointer (some ⟨e.blk, 0, none⟩)) := by
  have hi : i < hp.length := (List.getElem?_eq_some_iff.1 hk).1
  have h1 : cur.toList[i]? = (hptrs E hp)[i]? := by rw [← ht, List.getElem?_take_of_lt hi]
  simp only [hptrs, List.getElem?_map, hk, Option.map_some, he] at h1
  simp only [World.cell?, hg]
  simpa using h1

set_option maxHeartbeats 400000 in
theorem less_any (h : DBI B n w db mb dv E hp) {i j : Nat} (hi : i < hp.length) (hj : j < hp.length) :
    Calls Try.prog 77 #[dv, .int .i64 i, .int .i64 j] w fun e w' => e = .returned (.bool (decide (dlOf E (hp.getD i []) < dlOf E (hp.getD j [])))) ∧ ∃ m, w' = w.drewN m := by
  obtain ⟨g, cap, cur, rfl, hBg, hg, hc1, hc2, hs, ht⟩ := h.rowAt (by omega)
  obtain ⟨ki, ei, hki, hgi, hEi, ⟨vi, ci, hbi, _, _⟩, hdi⟩ := h.at hi
  obtain ⟨kj, ej, hkj, hgj, hEj, ⟨vj, cj, hbj, _, _⟩, hdj⟩ := h.at hj
  have q1 := row_cell hg ht hki hEi
  have q2 := row_cell hg ht hkj hEj
  have q3 : w.cell? ⟨ei.blk, 3, none⟩ = some (.int .i64 ei.dl) := by simp [World.cell?, hbi, ecells]
  have q4 : w.cell? ⟨ej.blk, 3, none⟩ = some (.int .i64 ej.dl) := by simp [World.cell?, hbj, ecells]
  have i1 : (0 : Int) ≤ (i : Int) := by omega
  have i2 : (i : Int) < (hp.length : Int) := by omega
  have i3 : (0 : Int) ≤ (j : Int) := by omega
  have i4 : (j : Int) < (hp.length : Int) := by omega
  rw [hgi, hgj, hdi, hdj]
  clear h hki hgi hEi hbi hdi hkj hgj hEj hbj hdj hs ht hg
  go_enter Try.func77, Try.ntmps77
  go_wp2
  go_quiet (fail)
  go_wp2
  go_ret
  exact ⟨rfl, _, rfl⟩

/-- The heap has turned: its row, its header, the entries' places; nothing else. -/
theorem DBI.rehp (h : DBI B n w db mb dv E hp) {dv' : Value} {hp' : List (List UInt8)} (hmap : w'.heap[mb]? = w.heap[mb]?) (k5 : Keep5 w w')
    (hhead : w'.heap[db]? = some (.cells #[.map (some mb), dv', .pointer none] 75 (0, 0))) (hrow : w'.ownsRow B 76 1 dv' hp'.length (hptrs E hp'))
    (hent : ∀ k e v c, E k = some e → w.heap[e.blk]? = some (.cells (ecells k v c e.dl (pos hp k)) 82 (0, 0)) → w'.heap[e.blk]? = some (.cells (ecells k v c e.dl (pos hp' k)) 82 (0, 0)))
    (hnd : hp'.Nodup) (hmem : ∀ k, k ∈ hp' → (E k).isSome = true) : DBI B n w' db mb dv' E hp' where
  low := h.low
  low' := h.low'
  head := hhead
  keys := h.keys.of_block hmap
  row := hrow
  ent := fun k e hE => by
    obtain ⟨⟨v, c, h1, h2, h3⟩, h4⟩ := h.ent k e hE
    exact ⟨⟨v, c, hent k e v c hE h1, h2.keep k5, h3⟩, h4⟩
  nodup := hnd
  mem := hmem

theorem DBI.blk_ne (h : DBI B n w db mb dv E hp) {k k' : List UInt8} {e e' : Ent} (h1 : E k = some e) (h2 : E k' = some e') (hk : k ≠ k') : e.blk ≠ e'.blk := fun hb => hk (h.key_inj h1 h2 hb)

theorem heap_set_other (w : World) (b : Nat) (a : Addr) (v : Value) (h : b ≠ a.block) : (w.setCell a v).heap[b]? = w.heap[b]? := Below.heap_setCell _ _ _ _ h

theorem hptrs_swp {i j : Nat} {ki kj : List UInt8} {ei ej : Ent} (hki : hp[i]? = some ki) (hkj : hp[j]? = some kj) (hEi : E ki = some ei) (hEj : E kj = some ej) :
    hptrs E (swp hp i j) = ((hptrs E hp).set i (.pointer (some ⟨ej.blk, 0, none⟩))).set j (.pointer (some ⟨ei.blk, 0, none⟩)) := by
  have g1 : hp.getD i [] = ki := by simp [hki]
  have g2 : hp.getD j [] = kj := by simp [hkj]
  unfold hptrs swp
  rw [List.map_set, List.map_set, g1, g2, hEi, hEj]
  rfl

theorem take_set2 {α : Type} (l : List α) (n i j : Nat) (a b : α) : ((l.set i a).set j b).take n = ((l.take n).set i a).set j b := by
  rw [List.take_set, List.take_set]

theorem heap_set_at' (w : World) (b i : Nat) (cs : Array Value) (t : TypeId) (fz : Nat × Nat) (v : Value) (h : w.heap[b]? = some (.cells cs t fz)) : (w.setCell ⟨b, i, none⟩ v).heap[b]? = some (.cells (cs.setIfInBounds i v) t fz) := by
  simp [World.setCell, Array.getElem?_modify, h]

theorem swap_mem {g cap : Nat} {cur : Array Value} (h : DBI B n w db mb (.slice (some ⟨g, 0, none⟩) hp.length cap) E hp) {i j : Nat} (hi : i < hp.length) (hj : j < hp.length) (hne : i ≠ j)
    (hBg : B ≤ g) (hg : w.heap[g]? = some (.cells cur 76 (0, 0))) (hc1 : hp.length ≤ cap) (hc2 : cap ≤ maxLen) (hs : cur.size = cap) (ht : cur.toList.take hp.length = hptrs E hp)
    {ki kj : List UInt8} {ei ej : Ent} (hki : hp[i]? = some ki) (hkj : hp[j]? = some kj) (hEi : E ki = some ei) (hEj : E kj = some ej)
    {vi ci vj cj : Value} (hbi : w.heap[ei.blk]? = some (.cells (ecells ki vi ci ei.dl (pos hp ki)) 82 (0, 0))) (hbj : w.heap[ej.blk]? = some (.cells (ecells kj vj cj ej.dl (pos hp kj)) 82 (0, 0))) :
    DBI B n ((((w.setCell ⟨g, i, none⟩ (.pointer (some ⟨ej.blk, 0, none⟩))).setCell ⟨g, j, none⟩ (.pointer (some ⟨ei.blk, 0, none⟩))).setCell ⟨ej.blk, 4, none⟩ (.int .i64 (i : Int))).setCell ⟨ei.blk, 4, none⟩ (.int .i64 (j : Int))).drew
      db mb (.slice (some ⟨g, 0, none⟩) hp.length cap) E (swp hp i j) ∧
    Fr B w ((((w.setCell ⟨g, i, none⟩ (.pointer (some ⟨ej.blk, 0, none⟩))).setCell ⟨g, j, none⟩ (.pointer (some ⟨ei.blk, 0, none⟩))).setCell ⟨ej.blk, 4, none⟩ (.int .i64 (i : Int))).setCell ⟨ei.blk, 4, none⟩ (.int .i64 (j : Int))).drew := by
  have hkk : ki ≠ kj := fun e => by
    subst e
    have := (List.getElem?_inj hi h.nodup).1 (hki.trans hkj.symm)
    exact hne this
  have n1 : ei.blk ≠ ej.blk := h.blk_ne hEi hEj hkk
  have n2 : ei.blk ≠ g := fun e => by rw [e, hg] at hbi; simp at hbi
  have n3 : ej.blk ≠ g := fun e => by rw [e, hg] at hbj; simp at hbj
  have hBi := (h.ent _ _ hEi).2.1
  have hBj := (h.ent _ _ hEj).2.1
  have hbel : Below B w ((((w.setCell ⟨g, i, none⟩ (.pointer (some ⟨ej.blk, 0, none⟩))).setCell ⟨g, j, none⟩ (.pointer (some ⟨ei.blk, 0, none⟩))).setCell ⟨ej.blk, 4, none⟩ (.int .i64 (i : Int))).setCell ⟨ei.blk, 4, none⟩ (.int .i64 (j : Int))).drew :=
    (((((Below.refl B w).setCell (p := ⟨g, i, none⟩) hBg _).setCell (p := ⟨g, j, none⟩) hBg _).setCell (p := ⟨ej.blk, 4, none⟩) hBj _).setCell (p := ⟨ei.blk, 4, none⟩) hBi _).drew
  have hoth : ∀ b, b ≠ g → b ≠ ei.blk → b ≠ ej.blk → ((((w.setCell ⟨g, i, none⟩ (.pointer (some ⟨ej.blk, 0, none⟩))).setCell ⟨g, j, none⟩ (.pointer (some ⟨ei.blk, 0, none⟩))).setCell ⟨ej.blk, 4, none⟩ (.int .i64 (i : Int))).setCell ⟨ei.blk, 4, none⟩ (.int .i64 (j : Int))).heap[b]? = w.heap[b]? := fun b b1 b2 b3 => by
    rw [heap_set_other _ _ _ _ (by exact b2), heap_set_other _ _ _ _ (by exact b3), heap_set_other _ _ _ _ (by exact b1), heap_set_other _ _ _ _ (by exact b1)]
  have hgg : ((((w.setCell ⟨g, i, none⟩ (.pointer (some ⟨ej.blk, 0, none⟩))).setCell ⟨g, j, none⟩ (.pointer (some ⟨ei.blk, 0, none⟩))).setCell ⟨ej.blk, 4, none⟩ (.int .i64 (i : Int))).setCell ⟨ei.blk, 4, none⟩ (.int .i64 (j : Int))).heap[g]? = some (.cells ((cur.setIfInBounds i (.pointer (some ⟨ej.blk, 0, none⟩))).setIfInBounds j (.pointer (some ⟨ei.blk, 0, none⟩))) 76 (0, 0)) := by
    rw [heap_set_other _ _ _ _ (by exact Ne.symm n2), heap_set_other _ _ _ _ (by exact Ne.symm n3)]
    exact heap_set_at' _ _ _ _ _ _ _ (heap_set_at' _ _ _ _ _ _ _ hg)
  have hii : ((((w.setCell ⟨g, i, none⟩ (.pointer (some ⟨ej.blk, 0, none⟩))).setCell ⟨g, j, none⟩ (.pointer (some ⟨ei.blk, 0, none⟩))).setCell ⟨ej.blk, 4, none⟩ (.int .i64 (i : Int))).setCell ⟨ei.blk, 4, none⟩ (.int .i64 (j : Int))).heap[ei.blk]? = some (.cells (ecells ki vi ci ei.dl (j : Int)) 82 (0, 0)) := by
    rw [heap_set_at' _ _ _ (ecells ki vi ci ei.dl (pos hp ki)) 82 (0, 0) _ (by rw [heap_set_other _ _ _ _ (by exact n1), heap_set_other _ _ _ _ (by exact n2), heap_set_other _ _ _ _ (by exact n2)]; exact hbi)]
    rfl
  have hjj : ((((w.setCell ⟨g, i, none⟩ (.pointer (some ⟨ej.blk, 0, none⟩))).setCell ⟨g, j, none⟩ (.pointer (some ⟨ei.blk, 0, none⟩))).setCell ⟨ej.blk, 4, none⟩ (.int .i64 (i : Int))).setCell ⟨ei.blk, 4, none⟩ (.int .i64 (j : Int))).heap[ej.blk]? = some (.cells (ecells kj vj cj ej.dl (i : Int)) 82 (0, 0)) := by
    rw [heap_set_other _ _ _ _ (by exact Ne.symm n1), heap_set_at' _ _ _ (ecells kj vj cj ej.dl (pos hp kj)) 82 (0, 0) _ (by rw [heap_set_other _ _ _ _ (by exact n3), heap_set_other _ _ _ _ (by exact n3)]; exact hbj)]
    rfl
  generalize ((((w.setCell ⟨g, i, none⟩ (.pointer (some ⟨ej.blk, 0, none⟩))).setCell ⟨g, j, none⟩ (.pointer (some ⟨ei.blk, 0, none⟩))).setCell ⟨ej.blk, 4, none⟩ (.int .i64 (i : Int))).setCell ⟨ei.blk, 4, none⟩ (.int .i64 (j : Int))) = W at hbel hoth hgg hii hjj ⊢
  have k5 : Keep5 w W.drew := fun b cs fz e => by
    refine (hoth b ?_ ?_ ?_).trans e
    · rintro rfl; rw [hg] at e; simp at e
    · rintro rfl; rw [hbi] at e; simp at e
    · rintro rfl; rw [hbj] at e; simp at e
  obtain ⟨es, clock, hm⟩ := h.keys.isMap
  refine ⟨?_, hbel, k5⟩
  have hp1 := swp_perm hp hi hj hne
  refine h.rehp (w' := W.drew) ?_ k5 ?_ ?_ ?_ (swp_nodup h.nodup hi hj hne) (fun k hk => h.mem k (hp1.mem_iff.1 hk))
  · refine hoth mb ?_ ?_ ?_
    · rintro rfl; rw [hg] at hm; simp at hm
    · rintro rfl; rw [hbi] at hm; simp at hm
    · rintro rfl; rw [hbj] at hm; simp at hm
  · have := h.head
    refine (hoth db ?_ ?_ ?_).trans this
    · rintro rfl; rw [hg] at this; simp at this
    · rintro rfl; rw [hbi] at this; simp at this
    · rintro rfl; rw [hbj] at this; simp at this
  · rw [swp_length]
    refine ⟨by simp [hptrs, swp_length], .inr ⟨g, cap, _, rfl, hBg, hgg, hc1, hc2, by simp [hs], ?_⟩⟩
    rw [hptrs_swp hki hkj hEi hEj, ← ht]
    simp only [Nat.mul_one, Array.toList_setIfInBounds]
    exact take_set2 _ _ _ _ _ _
  · intro k e v c hk hb
    by_cases e1 : k = ki
    · subst e1
      rw [hEi] at hk
      cases hk
      rw [hbi] at hb
      simp only [ecells, Option.some.injEq, Obj.cells.injEq, and_true, Array.mk.injEq, List.cons.injEq, true_and] at hb
      obtain ⟨rfl, rfl⟩ := hb
      rw [pos_eq, swp_pos_i h.nodup hi hj hne hki]
      exact hii
    · by_cases e2 : k = kj
      · subst e2
        rw [hEj] at hk
        cases hk
        rw [hbj] at hb
        simp only [ecells, Option.some.injEq, Obj.cells.injEq, and_true, Array.mk.injEq, List.cons.injEq, true_and] at hb
        obtain ⟨rfl, rfl⟩ := hb
        rw [pos_eq, swp_pos_j h.nodup hi hj hne hkj]
        exact hjj
      · rw [pos_eq, swp_pos_other h.nodup hi hj hne (by rw [hki]; simpa using Ne.symm e1) (by rw [hkj]; simpa using Ne.symm e2)]
        refine (hoth e.blk ?_ (h.blk_ne hk hEi e1) (h.blk_ne hk hEj e2)).trans hb
        intro e3
        rw [e3, hg] at hb
        simp at hb

set_option maxHeartbeats 1000000 in
theorem swap_any (h : DBI B n w db mb dv E hp) {i j : Nat} (hi : i < hp.length) (hj : j < hp.length) (hne : i ≠ j) :
    Calls Try.prog 78 #[dv, .int .i64 i, .int .i64 j] w fun e w' => e = .returned (.tuple #[]) ∧ DBI B n w' db mb dv E (swp hp i j) ∧ Fr B w w' := by
  obtain ⟨g, cap, cur, rfl, hBg, hg, hc1, hc2, hs, ht⟩ := h.rowAt (by omega)
  obtain ⟨ki, ei, hki, hgi, hEi, ⟨vi, ci, hbi, _, _⟩, hdi⟩ := h.at hi
  obtain ⟨kj, ej, hkj, hgj, hEj, ⟨vj, cj, hbj, _, _⟩, hdj⟩ := h.at hj
  have q1 := row_cell hg ht hki hEi
  have q2 := row_cell hg ht hkj hEj
  have q3 : w.cell? ⟨ei.blk, 4, none⟩ = some (.int .i64 (pos hp ki)) := by simp [World.cell?, hbi, ecells]
  have q4 : w.cell? ⟨ej.blk, 4, none⟩ = some (.int .i64 (pos hp kj)) := by simp [World.cell?, hbj, ecells]
  have f1 : w.frozen? ⟨g, i, none⟩ = false := by simp [World.frozen?, hg]
  have f2 : w.frozen? ⟨g, j, none⟩ = false := by simp [World.frozen?, hg]
  have f3 : w.frozen? ⟨ei.blk, 4, none⟩ = false := by simp [World.frozen?, hbi]
  have f4 : w.frozen? ⟨ej.blk, 4, none⟩ = false := by simp [World.frozen?, hbj]
  have i1 : (0 : Int) ≤ (i : Int) := by omega
  have i2 : (i : Int) < (hp.length : Int) := by omega
  have i3 : (0 : Int) ≤ (j : Int) := by omega
  have i4 : (j : Int) < (hp.length : Int) := by omega
  have hkk : ki ≠ kj := fun e => by
    subst e
    have := (List.getElem?_inj hi h.nodup).1 (hki.trans hkj.symm)
    exact hne this
  have n1 : ei.blk ≠ ej.blk := h.blk_ne hEi hEj hkk
  have n2 : ei.blk ≠ g := fun e => by rw [e, hg] at hbi; simp at hbi
  have n3 : ej.blk ≠ g := fun e => by rw [e, hg] at hbj; simp at hbj
  have HI := hide (And.intro hbi hbj)
  have HG := hide hg
  have HT := hide ht
  have H := hide h
  have HK := hide (And.intro hki hkj)
  have HE := hide (And.intro hEi hEj)
  have HS := hide hs
  clear h hki hgi hEi hbi hdi hkj hgj hEj hbj hdj hs ht hg hkk
  go_enter Try.func78, Try.ntmps78
  go_wp2
  go_region
  go_wp2
  go_end0
  refine ⟨rfl, ?_⟩
  exact swap_mem H.out hi hj hne hBg HG.out hc1 hc2 HS.out HT.out HK.out.1 HK.out.2 HE.out.1 HE.out.2 HI.out.1 HI.out.2
end
end Go.Proofs.Qxb6615097a
