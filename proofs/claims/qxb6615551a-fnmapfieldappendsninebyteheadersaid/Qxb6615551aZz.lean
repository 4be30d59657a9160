/- ZZi32, ZZmapField, zzCompareBytes. -/
import Derived.Test.Qxb6615551aMap
namespace Go.Proofs.Qxb6615551a
open Go.RowKit

theorem EncI.fresh {B : Nat} {w : World} {v : Value} {ns : List Int} (h : w.ownsRow B 5 1 v ns.length (bc ns)) (hB : B ≤ w.heap.size) : EncI B (w.alloc (.cells #[v] 38)) w.heap.size v ns :=
  ⟨by have := heap_alloc_new w (.cells #[v] 38); simpa using this, h.alloc _, hB, fun e => by have := (h.lt _ e.symm).2; omega⟩

/-- A buffer of the call's own comes back, grown. -/
structure Out (B : Nat) (w w' : World) (v v' : Value) (ns' : List Int) : Prop where
  row : w'.ownsRow B 5 1 v' ns'.length (bc ns')
  fx : Fx w w' (fun k => some k = v.ownBlock)
  loc : Loc w v v'

theorem out_of {B : Nat} {w w' : World} {v v' : Value} {ns' : List Int} (h : EncI B w' w.heap.size v' ns') (hf : Fx (w.alloc (.cells #[v] 38)) w' (fun k => k = w.heap.size ∨ some k = v.ownBlock)) (hl : Loc (w.alloc (.cells #[v] 38)) v v') : Out B w w' v v' ns' := by
  refine ⟨h.row, ((Fx.refl w _).alloc (.cells #[v] 38)).trans hf (fun i hi t => ?_), ?_⟩
  · rcases t with t | t
    · omega
    · exact t
  · rcases hl with e | ⟨g, e, hg⟩
    · exact .inl e
    · exact .inr ⟨g, e, by simp at hg; omega⟩

set_option maxHeartbeats 1000000 in
theorem zzMap_any {B : Nat} {v : Value} {ns : List Int} (id key val n : Int) (w : World) (h : w.ownsRow B 5 1 v ns.length (bc ns)) (hn : ns.length ≤ 1800000) (hB : B ≤ w.heap.size) (hn1 : n ≤ 65536) :
    Calls Try.prog 13 #[v, .int .i16 id, .int .u8 key, .int .u8 val, .int .i64 n] w fun e w' => ∃ v', e = .returned v' ∧ Out B w w' v v' (ns ++ hdr id key val n) := by
  obtain ⟨p, cap, hv⟩ := own_shape h
  have HM := hide (mapField_any id key val n _ (EncI.fresh h hB) hn (by simp; omega) hn1)
  subst hv
  clear h
  go_enter Try.func13, Try.ntmps13
  go_wp2_with fail
  refine HM.out.mono ?_
  rintro e w1 ⟨rfl, v1, E1, F1, L1⟩
  generalize hns : ns ++ hdr id key val n = ns' at E1
  have HNS := hide hns
  clear hns
  have c1 := E1.at
  have HR := hide (out_of E1 F1 L1)
  obtain ⟨p1, cap1, rfl⟩ := own_shape E1.row
  clear E1 F1 L1 HM
  go_wp2_with fail
  go_ret
  rw [HNS.out]
  exact ⟨_, rfl, HR.out⟩

set_option maxHeartbeats 1000000 in
theorem zzI32_any {B : Nat} {v : Value} {ns : List Int} (x : Int) (w : World) (h : w.ownsRow B 5 1 v ns.length (bc ns)) (hn : ns.length ≤ 1800000) (hB : B ≤ w.heap.size) :
    Calls Try.prog 9 #[v, .int .i32 x] w fun e w' => ∃ v', e = .returned v' ∧ Out B w w' v v' (ns ++ be32 (x % 4294967296)) := by
  obtain ⟨p, cap, hv⟩ := own_shape h
  have HM := hide (i32_any x _ (EncI.fresh h hB) (by omega) (by simp; omega))
  subst hv
  clear h
  go_enter Try.func9, Try.ntmps9
  go_wp2_with fail
  refine HM.out.mono ?_
  rintro e w1 ⟨rfl, v1, E1, F1, L1⟩
  generalize hns : ns ++ be32 (x % 4294967296) = ns' at E1
  have HNS := hide hns
  clear hns
  have c1 := E1.at
  have HR := hide (out_of E1 F1 L1)
  obtain ⟨p1, cap1, rfl⟩ := own_shape E1.row
  clear E1 F1 L1 HM
  go_wp2_with fail
  go_ret
  rw [HNS.out]
  exact ⟨_, rfl, HR.out⟩

/-- The ending is a number that is 0 just where the lists are the same. -/
def CmpSays (e : Ending) (xs ys : List Int) : Prop := ∃ r : Int, e = .returned (.int .i64 r) ∧ (r = 0 ↔ xs = ys)

theorem take_step {la lb : List Int} {k : Nat} (h : la.take k = lb.take k) (h1 : k < la.length) (h2 : k < lb.length) (e : la[k] = lb[k]) : la.take (k + 1) = lb.take (k + 1) := by
  rw [List.take_succ_eq_append_getElem h1, List.take_succ_eq_append_getElem h2, h, e]

set_option maxHeartbeats 1000000 in
theorem cmp_any (ga gb ca cb n : Nat) (xs ys : List Int) (hx : xs.length = n) (hy : ys.length = n) (hn : n ≤ 1048576) (w : World) (ha : ∀ i (h : i < xs.length), w.cell? ⟨ga, i, none⟩ = some (.int .u8 xs[i])) (hb : ∀ i (h : i < ys.length), w.cell? ⟨gb, i, none⟩ = some (.int .u8 ys[i])) :
    Calls Try.prog 11 #[.slice (some ⟨ga, 0, none⟩) n ca, .slice (some ⟨gb, 0, none⟩) n cb] w fun e w' => CmpSays e xs ys ∧ ∃ m, w' = w.drewN m := by
  have HA := hide ha
  have HB := hide hb
  clear ha hb
  go_enter Try.func11, Try.ntmps11
  go_wp2_with fail
  go_loopw [6] (fun i wr => ∃ k : Nat, k ≤ n ∧ i = .int .i64 k ∧ Hid (xs.take k = ys.take k) ∧ Hid (∃ m, wr = w.drewN m)) (fun i _ => n - (intOf i).toNat)
  case atStart => exact ⟨0, Nat.zero_le _, rfl, rfl, ⟨0, rfl⟩⟩
  case round =>
    obtain ⟨k, hk, rfl, hE, hm⟩ := hrel
    by_cases hlt : k < n
    · have hkx : k < xs.length := by omega
      have hky : k < ys.length := by omega
      have q0 : wr.cell? ⟨ga, k, none⟩ = some (.int .u8 xs[k]) := by
        obtain ⟨m, rfl⟩ := hm.out
        exact HA.out k hkx
      have q1 : wr.cell? ⟨gb, k, none⟩ = some (.int .u8 ys[k]) := by
        obtain ⟨m, rfl⟩ := hm.out
        exact HB.out k hky
      have HX : Hid (xs = ys → xs[k] = ys[k]) := fun e => by subst e; rfl
      have HT : Hid (xs[k] = ys[k] → xs.take (k + 1) = ys.take (k + 1)) := take_step hE.out hkx hky
      generalize xs[k] = x at q0 HX HT
      generalize ys[k] = y at q1 HX HT
      have HM : Hid (∀ n, ∃ m, wr.drewN n = w.drewN m) := by
        obtain ⟨m, rfl⟩ := hm.out
        exact fun n => ⟨m + n, World.drewN_drewN _ _ _⟩
      have i1 : (0 : Int) ≤ (k : Int) := by omega
      have i2 : (k : Int) < (n : Int) := by omega
      clear hm hE hkx hky
      rcases Int.lt_trichotomy x y with hc | hc | hc
      · go_wp2_with fail
        go_quiet (fail)
        go_wp2_with fail
        go_ret
        exact ⟨⟨-1, rfl, fun h => by omega, fun h => by have := HX.out h; omega⟩, HM.out _⟩
      · subst hc
        have HN := hide (HT.out rfl)
        go_wp2_with fail
        go_quiet (fail)
        have q0' : (wr.drewN nq).cell? ⟨ga, k, none⟩ = some (.int .u8 x) := q0
        have q1' : (wr.drewN nq).cell? ⟨gb, k, none⟩ = some (.int .u8 x) := q1
        have HM' : Hid (∀ n, ∃ m, (wr.drewN nq).drewN n = w.drewN m) := fun n => by rw [World.drewN_drewN]; exact HM.out _
        generalize wr.drewN nq = wr2 at q0' q1' HM' ⊢
        clear q0 q1 HM HX HT
        go_wp2_with fail
        go_quiet (fail)
        go_wp2_with fail
        go_roundw
        case rel => exact ⟨k + 1, by omega, by go_num, HN, HM'.out _⟩
        case measure => simp [intOf]; omega
      · go_wp2_with fail
        go_quiet (fail)
        have q0' : (wr.drewN nq).cell? ⟨ga, k, none⟩ = some (.int .u8 x) := q0
        have q1' : (wr.drewN nq).cell? ⟨gb, k, none⟩ = some (.int .u8 y) := q1
        have HM' : Hid (∀ n, ∃ m, (wr.drewN nq).drewN n = w.drewN m) := fun n => by rw [World.drewN_drewN]; exact HM.out _
        generalize wr.drewN nq = wr2 at q0' q1' HM' ⊢
        clear q0 q1 HM
        go_wp2_with fail
        go_quiet (fail)
        go_wp2_with fail
        go_ret
        exact ⟨⟨1, rfl, fun h => by omega, fun h => by have := HX.out h; omega⟩, HM'.out _⟩
    · have hkk : k = n := by omega
      have HEQ : Hid (xs = ys) := by
        have := hE.out
        rw [hkk] at this
        rw [Hid]
        rwa [List.take_of_length_le (by omega), List.take_of_length_le (by omega)] at this
      clear hkk
      go_wp2_with fail
      go_ret
      exact ⟨⟨0, rfl, fun _ => HEQ.out, fun _ => rfl⟩, hm.out⟩
end Go.Proofs.Qxb6615551a
