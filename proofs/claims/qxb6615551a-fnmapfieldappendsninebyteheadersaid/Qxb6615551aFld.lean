/- The encoder's methods: i32, field, mapField; ZZi32, ZZmapField. -/
import Derived.Test.Qxb6615551aEnc
namespace Go.Proofs.Qxb6615551a
open Go.RowKit

/-- The encoder lies in block eb; its buffer v is the call's own and reads ns. -/
structure EncI (B : Nat) (w : World) (eb : Nat) (v : Value) (ns : List Int) : Prop where
  cell : w.heap[eb]? = some (.cells #[v] 38 (0, 0))
  row : w.ownsRow B 5 1 v ns.length (bc ns)
  low : B ≤ eb
  ne : some eb ≠ v.ownBlock

theorem EncI.at {B : Nat} {w : World} {eb : Nat} {v : Value} {ns : List Int} (h : EncI B w eb v ns) : w.cell? ⟨eb, 0, none⟩ = some v := by simp [World.cell?, h.cell]
theorem EncI.fz {B : Nat} {w : World} {eb : Nat} {v : Value} {ns : List Int} (h : EncI B w eb v ns) : w.frozen? ⟨eb, 0, none⟩ = false := by simp [World.frozen?, h.cell]
theorem lt_of_some {w : World} {b : Nat} {o : Obj} (h : w.heap[b]? = some o) : b < w.heap.size := (Array.getElem?_eq_some_iff.1 h).1
theorem EncI.lt {B : Nat} {w : World} {eb : Nat} {v : Value} {ns : List Int} (h : EncI B w eb v ns) : eb < w.heap.size := lt_of_some h.cell

/-- A uint32's bytes. -/
def be32 (x : Int) : List Int := [x / 16777216, x / 65536 % 256, x / 256 % 256, x % 256]
def be16 (x : Int) : List Int := [x / 256, x % 256]

theorem heap_set_at (w : World) (b i : Nat) (cs : Array Value) (t : TypeId) (fz : Nat × Nat) (v : Value) (h : w.heap[b]? = some (.cells cs t fz)) : (w.setCell ⟨b, i, none⟩ v).heap[b]? = some (.cells (cs.setIfInBounds i v) t fz) := by
  simp [World.setCell, Array.getElem?_modify, h]

theorem EncI.store {B : Nat} {w w1 : World} {eb : Nat} {v v' : Value} {ns ns' : List Int} (h : EncI B w eb v ns) (hf : Fx w w1 (fun k => some k = v.ownBlock)) (hr : w1.ownsRow B 5 1 v' ns'.length (bc ns')) (hl : Loc w v v') :
    EncI B (w1.setCell ⟨eb, 0, none⟩ v') eb v' ns' ∧ Fx w (w1.setCell ⟨eb, 0, none⟩ v') (fun k => k = eb ∨ some k = v.ownBlock) := by
  have hne : some eb ≠ v'.ownBlock := by
    rcases hl with e | ⟨g, e, hg⟩
    · rw [e]; exact h.ne
    · rw [e]; have := h.lt; intro k; cases k; omega
  have hc := (hf.block eb h.lt h.ne).trans h.cell
  refine ⟨⟨?_, ownsRow_setCell_other hr (fun e => hne e.symm) _, h.low, hne⟩, (hf.mono fun _ _ e => .inr e).setCell (fun _ => .inl rfl) _⟩
  have := heap_set_at _ eb 0 _ _ _ v' hc
  simpa using this

/-- The buffer has grown; the encoder's cell holds the old one still. -/
structure Aft (B : Nat) (w w1 : World) (eb : Nat) (v v' : Value) (ns' : List Int) : Prop where
  row : w1.ownsRow B 5 1 v' ns'.length (bc ns')
  fx : Fx w w1 (fun k => some k = v.ownBlock)
  loc : Loc w v v'
  cell : w1.cell? ⟨eb, 0, none⟩ = some v
  fz : w1.frozen? ⟨eb, 0, none⟩ = false

theorem EncI.aft {B : Nat} {w w1 : World} {eb : Nat} {v v' : Value} {ns ns' : List Int} (h : EncI B w eb v ns) {n' : Nat} (hr : w1.ownsRow B 5 1 v' n' (bc ns')) (hn : n' = ns'.length) (hf : Fx w w1 (fun k => some k = v.ownBlock)) (hl : Loc w v v') : Aft B w w1 eb v v' ns' := by
  subst hn
  have f1 := (hf.block eb h.lt h.ne).trans h.cell
  exact ⟨hr, hf, hl, by simp [World.cell?, f1], by simp [World.frozen?, f1]⟩

theorem app32_d {B eb : Nat} {v : Value} {ns : List Int} (x : Int) (h0 : 0 ≤ x) (h1 : x < 4294967296) (w : World) (h : EncI B w eb v ns) (hn : ns.length ≤ 2000000) (hB : B ≤ w.heap.size) :
    Calls Try.prog 17 #[.agg #[], v, .int .u32 x] w.drew fun e w' => ∃ g m cap, e = .returned (.slice (some ⟨g, 0, none⟩) m cap) ∧ Aft B w w' eb v (.slice (some ⟨g, 0, none⟩) m cap) (ns ++ be32 x) := by
  refine (app32 (B := B) (n := ns.length) (xs := bc ns) x h0 h1 w.drew h.row (by omega) hB).mono ?_
  rintro e w1 ⟨g, cap, rfl, ho, hf, hl⟩
  rw [← bc_append] at ho
  exact ⟨_, _, _, rfl, h.aft ho (by simp [be32]) ⟨hf.os, hf.tape, hf.output, hf.size, hf.block⟩ hl⟩

theorem app16_d {B eb : Nat} {v : Value} {ns : List Int} (x : Int) (h0 : 0 ≤ x) (h1 : x < 65536) (w : World) (h : EncI B w eb v ns) (hn : ns.length ≤ 2000000) (hB : B ≤ w.heap.size) :
    Calls Try.prog 19 #[.agg #[], v, .int .u16 x] w.drew fun e w' => ∃ g m cap, e = .returned (.slice (some ⟨g, 0, none⟩) m cap) ∧ Aft B w w' eb v (.slice (some ⟨g, 0, none⟩) m cap) (ns ++ be16 x) := by
  refine (app16 (B := B) (n := ns.length) (xs := bc ns) x h0 h1 w.drew h.row (by omega) hB).mono ?_
  rintro e w1 ⟨g, cap, rfl, ho, hf, hl⟩
  rw [← bc_append] at ho
  exact ⟨_, _, _, rfl, h.aft ho (by simp [be16]) ⟨hf.os, hf.tape, hf.output, hf.size, hf.block⟩ hl⟩

theorem Loc.trans {w w' : World} {v v' v'' : Value} (h : Loc w v v') (k : Loc w' v' v'') (hs : w.heap.size ≤ w'.heap.size) : Loc w v v'' := by
  rcases k with e | ⟨g, e, hg⟩
  · rcases h with e' | ⟨g, e', hg⟩
    · exact .inl (e.trans e')
    · exact .inr ⟨g, e.trans e', hg⟩
  · exact .inr ⟨g, e, by omega⟩
theorem Fx.step {w w' w'' : World} {eb : Nat} {v v' : Value} (h : Fx w w' (fun k => k = eb ∨ some k = v.ownBlock)) (hl : Loc w v v') (k : Fx w' w'' (fun k => k = eb ∨ some k = v'.ownBlock)) : Fx w w'' (fun k => k = eb ∨ some k = v.ownBlock) :=
  h.trans k fun i hi t => by
    rcases t with t | t
    · exact .inl t
    · rcases hl with e | ⟨g, e, hg⟩
      · exact .inr (t.trans e)
      · rw [e] at t; cases t; omega

set_option maxHeartbeats 1000000 in
theorem i32_any {B eb : Nat} {v : Value} {ns : List Int} (x : Int) (w : World) (h : EncI B w eb v ns) (hn : ns.length ≤ 2000000) (hB : B ≤ w.heap.size) :
    Calls Try.prog 14 #[.pointer (some ⟨eb, 0, none⟩), .int .i32 x] w fun e w' => e = .returned (.tuple #[]) ∧ ∃ v', EncI B w' eb v' (ns ++ be32 (x % 4294967296)) ∧ Fx w w' (fun k => k = eb ∨ some k = v.ownBlock) ∧ Loc w v v' := by
  have c0 := h.at
  have H := hide h
  clear h
  have hc : IntKind.u32.wrap x = x % 4294967296 := IntKind.wrap_u32 x
  have hy0 : 0 ≤ x % 4294967296 := by omega
  have hy1 : x % 4294967296 < 4294967296 := by omega
  generalize x % 4294967296 = y at hc hy0 hy1 ⊢
  go_enter Try.func14, Try.ntmps14
  go_wp2_with fail
  go_region_with (go_at_call 17; refine (app32_d (B := B) y hy0 hy1 w H.out hn hB).mono ?_; rintro e w1 ⟨g, m, cap, rfl, HA0⟩; have HA := hide HA0; have f2 := HA0.fz; have f3 := HA0.cell; clear HA0)
  all_goals (go_end0; exact ⟨rfl, _, (H.out.store HA.out.fx HA.out.row HA.out.loc).1, (H.out.store HA.out.fx HA.out.row HA.out.loc).2, HA.out.loc⟩)

set_option maxHeartbeats 1000000 in
theorem field_any {B eb : Nat} {v : Value} {ns : List Int} (t x : Int) (w : World) (h : EncI B w eb v ns) (hn : ns.length ≤ 1900000) (hB : B ≤ w.heap.size) :
    Calls Try.prog 18 #[.pointer (some ⟨eb, 0, none⟩), .int .u8 t, .int .i16 x] w fun e w' => e = .returned (.tuple #[]) ∧ ∃ v', EncI B w' eb v' (ns ++ t :: be16 (x % 65536)) ∧ Fx w w' (fun k => k = eb ∨ some k = v.ownBlock) ∧ Loc w v v' := by
  have c0 := h.at
  obtain ⟨i0, hi, hz0, hz1, hz2⟩ := info_parts Try.info5
  obtain ⟨p, cap0, rfl⟩ := own_shape h.row
  have H := hide h
  have HO : Hid ((w.alloc (.cells #[.int .u8 t] 5)).ownsRow B 5 1 (.slice p ns.length cap0) ns.length (bc ns)) := h.row.alloc _
  have HLT := hide h.lt
  clear h
  have hc : IntKind.u16.wrap x = x % 65536 := IntKind.wrap_u16 x
  have hy0 : 0 ≤ x % 65536 := by omega
  have hy1 : x % 65536 < 65536 := by omega
  generalize x % 65536 = y at hc hy0 hy1 ⊢
  go_enter Try.func18, Try.ntmps18
  go_wp2_with (at_builtin; refine wpList_append_lies _ rfl _ _ 22 rfl B 5 i0 (.int .u8 0) 1 1 Try.underlying22 hi hz0 hz1 hz2 rfl (by decide) _ _ _ rfl HO.out ⟨w.heap.size, 0, none⟩ 1 1 (bc [t]) rfl rfl ?c1 ?c2 (by decide) ?c3 ?c4 ?c5 (w.heap.size + 1) ?c6 ?_)
  case c1 => exact World.news_of_block (B := w.heap.size) (by have := heap_alloc_new w (.cells #[.int .u8 t] 5); simpa using this)
  case c2 => intro u hu; simp [bc] at hu; subst hu; rfl
  case c3 => unfold maxLen; omega
  case c4 => omega
  case c5 => simp; omega
  case c6 => simp
  intro g cap w2 hown hgrow hloc _
  have HA : Hid (Aft B w w2 eb (.slice p ns.length cap0) (.slice (some ⟨g, 0, none⟩) (ns.length + 1) cap) (ns ++ [t])) := by
    rw [← bc_append] at hown
    refine H.out.aft hown (by simp) (((Fx.refl w _).alloc _).trans (Fx.of_grown hgrow) (fun _ _ t => t)) ?_
    rcases hloc with h | h
    · exact .inl h.symm
    · exact .inr ⟨g, rfl, by omega⟩
  have f2 := HA.out.fz
  have f3 := HA.out.cell
  clear hown hgrow hloc HO c0
  go_wp2_with fail
  obtain ⟨E2, F2⟩ := H.out.store HA.out.fx HA.out.row HA.out.loc
  have HE2 := hide E2
  have HF2 := hide F2
  have HL2 := hide HA.out.loc
  have c2 := E2.at
  clear E2 F2 HA f2 f3
  have HB2 : Hid (B ≤ (w2.setCell ⟨eb, 0, none⟩ (.slice (some ⟨g, 0, none⟩) (ns.length + 1) cap)).heap.size) := Nat.le_trans hB HF2.out.size
  generalize w2.setCell ⟨eb, 0, none⟩ (.slice (some ⟨g, 0, none⟩) (ns.length + 1) cap) = X2 at HE2 HF2 c2 HB2 ⊢
  go_region_with (go_at_call 19; refine (app16_d (B := B) y hy0 hy1 X2 HE2.out (by simp; omega) HB2.out).mono ?_; rintro e w1 ⟨g', m, cap', rfl, HA0⟩; have HA := hide HA0; have f2 := HA0.fz; have f3 := HA0.cell; clear HA0)
  all_goals
    go_end0
    obtain ⟨E3, F3⟩ := HE2.out.store HA.out.fx HA.out.row HA.out.loc
    exact ⟨rfl, _, by simpa using E3, HF2.out.step HL2.out F3, HL2.out.trans HA.out.loc HF2.out.size⟩
end Go.Proofs.Qxb6615551a
