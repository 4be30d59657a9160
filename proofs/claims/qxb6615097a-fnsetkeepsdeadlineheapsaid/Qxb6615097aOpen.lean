/- The arguments opened: byte slices, and slices of Sets. -/
import Derived.Test.Qxb6615097aOps
import Derived.ProofKit
import Derived.OpenShut
import Derived.Deep.Slices
import Derived.Deep.Strs
namespace Go.Proofs.Qxb6615097a
open Go.ChangeShapes Go.WideShapes Go.ChangeAt Go.RowKit Go.Deep

theorem Try.cells5 : Try.prog.cellsOf 5 = 1 := by kernel_rfl
theorem Try.cells22 : Try.prog.cellsOf 22 = 1 := by kernel_rfl
theorem Try.cells2 : Try.prog.cellsOf 2 = 1 := by kernel_rfl
theorem Try.cells43 : Try.prog.cellsOf 43 = 3 := by kernel_rfl

section
variable {H : Type} {enc : TypeId × Value → H} {W : World} {sp : Nat → Bool}

theorem open_bytes {fuel : Nat} {cs : List Value} {x : DataW H × List MemPlace} (hsp : ∀ b, sp b = true) (h : DataW.trod enc Try.prog W 0 sp true fuel 22 cs = some x) : ∃ a l c, cs = [.slice a l.length c] ∧ CameB W a l c := by
  rcases open_ints Try.underlying22 Try.underlying5 Try.cells5 h with ⟨rfl, _⟩ | ⟨x, len, cap, zs, rfl, _, hl, hm, hz, _, hc, hw⟩
  · exact ⟨none, [], 0, rfl, fun i hi => by simp at hi, fun _ => ⟨rfl, rfl⟩, by simp⟩
  · rw [hsp, if_pos rfl] at hz
    refine ⟨some x, (zs.take len).map fun n => UInt8.ofNat n.toNat, cap, ?_, ?_, fun e => (by cases e), by simp; omega⟩
    · simp only [List.length_map, List.length_take]
      rw [Nat.min_eq_left (by omega)]
    · intro i hi
      have hi' : i < zs.length := by simp at hi; omega
      have h1 := hc i hi'
      obtain ⟨b, off, spt⟩ := x
      have hspt : spt = none := by
        have := World.cell?_spot (hc 0 (by omega))
        simpa [Addr.add] using this
      subst hspt
      refine ⟨b, off, rfl, ?_⟩
      rw [add_plain] at h1
      rw [h1]
      have hwf := hw (zs.getD i 0) (by rw [List.getD_eq_getElem?_getD, List.getElem?_eq_getElem hi']; simp)
      have hb := bounds_u8 hwf
      have e1 : zs.getD i 0 = zs[i] := by simp [hi']
      rw [e1] at hb ⊢
      simp only [List.getElem_map, List.getElem_take]
      congr 2
      rw [UInt8.toNat_ofNat']
      omega

set_option maxRecDepth 100000 in
/-- One Set, out of its three cells. -/
theorem open_op {fuel : Nat} {cs : List Value} {x : DataW H × List MemPlace} (hsp : ∀ b, sp b = true) (h : DataW.trod enc Try.prog W 0 sp true fuel 43 cs = some x) :
    ∃ o : RawOp, cs = [.slice o.ka o.kl.length o.kc, .slice o.va o.vl.length o.vc, .int .i64 o.d] ∧ CameB W o.ka o.kl o.kc ∧ CameB W o.va o.vl o.vc := by
  obtain ⟨y0, y1, y2, n, _, hl, h0, h1, h2⟩ := trod_struct3 Try.underlying43 h
  rw [Try.cells43] at hl
  match cs, hl with
  | [c0, c1, c2], _ =>
    simp only [Try.cells22, Try.cells2, List.drop_zero, List.drop_succ_cons, List.take_succ_cons, List.take_zero] at h0 h1 h2
    obtain ⟨ka, kl, kc, e0, g0⟩ := open_bytes hsp h0
    obtain ⟨va, vl, vc, e1, g1⟩ := open_bytes hsp h1
    obtain ⟨d, e2, _, _⟩ := DataW.trod_int Try.underlying2 h2
    simp only [List.cons.injEq, and_true] at e0 e1 e2
    subst e0 e1 e2
    exact ⟨⟨ka, kl, kc, va, vl, vc, d⟩, rfl, g0, g1⟩

theorem open_ops {fuel : Nat} {cs : List Value} {x : DataW H × List MemPlace} (hsp : ∀ b, sp b = true) (h : DataW.trod enc Try.prog W 0 sp true fuel 35 cs = some x) :
    ∃ a os c, cs = [.slice a os.length c] ∧ OpsArg W a os ∧ (a = none → os = [] ∧ c = 0) ∧ os.length ≤ maxLen := by
  rcases open_slice Try.underlying35 h with ⟨rfl, _⟩ | ⟨x, len, cap, m, n, D, Pl, rfl, _, hl, hm, hmm, _, hx⟩
  · exact ⟨none, [], 0, rfl, fun i hi => by simp at hi, fun _ => ⟨rfl, rfl⟩, by simp⟩
  · rw [hsp, if_pos rfl] at hmm
    subst hmm
    have _inh : Inhabited RawOp := ⟨⟨none, [], 0, none, [], 0, 0⟩⟩
    obtain ⟨O, hO⟩ := choose_lt (α := RawOp) (n := m) (p := fun i o => (∀ j, j < 3 → W.cell? ((x.add (i * 3)).add j) = [Value.slice o.ka o.kl.length o.kc, .slice o.va o.vl.length o.vc, .int .i64 o.d][j]?) ∧ CameB W o.ka o.kl o.kc ∧ CameB W o.va o.vl o.vc) (fun i hi => by
      obtain ⟨cs', h1, h2⟩ := hx i hi
      rw [Try.cells43] at h1
      obtain ⟨_, _, hc⟩ := World.cells?_some h1
      obtain ⟨o, rfl, g0, g1⟩ := open_op hsp h2
      exact ⟨o, hc, g0, g1⟩)
    refine ⟨some x, (List.range len).map O, m, by simp, ?_, fun e => (by cases e), by simp; omega⟩
    intro i hi
    have hi' : i < len := by simpa using hi
    obtain ⟨hc, g0, g1⟩ := hO i (by omega)
    obtain ⟨b, off, spt⟩ := x
    have hspt : spt = none := by
      have := World.cell?_spot ((hO 0 (by omega)).1 0 (by omega))
      simpa [Addr.add] using this
    subst hspt
    have c0 := hc 0 (by omega)
    have c1 := hc 1 (by omega)
    have c2 := hc 2 (by omega)
    rw [add_plain, add_plain] at c0 c1 c2
    simp only [List.getElem_map, List.getElem_range]
    exact ⟨b, off, rfl, c0, c1, c2, g0, g1⟩
end
end Go.Proofs.Qxb6615097a
