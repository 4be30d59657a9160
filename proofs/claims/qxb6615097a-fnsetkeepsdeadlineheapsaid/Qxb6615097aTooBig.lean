/- opsTooBig: it answers, whatever. -/
import Derived.Test.Qxb6615097aOps
namespace Go.Proofs.Qxb6615097a
open Go.RowKit

set_option maxRecDepth 20000 in
set_option maxHeartbeats 1000000 in
theorem tooBig_any (a : Option Addr) (os : List RawOp) (c : Nat) (lim : Int) (w : World) (h : OpsArg w a os) (hS : Short os os.length) (hn : os.length ≤ 1048576) (hl : -4194304 ≤ lim) (hl' : lim ≤ 1048576) :
    Calls Try.prog 18 #[.slice a os.length c, .int .i64 lim] w fun e w' => Says e True ∧ ∃ n, w' = w.drewN n := by
  go_enter Try.func18, Try.ntmps18
  go_wp2
  go_loopw [5, 6] (fun n i wr => ∃ (k : Nat) (t : Int), k ≤ os.length ∧ i = .int .i64 k ∧ n = .int .i64 t ∧ 0 ≤ t ∧ t ≤ 1048576 ∧ ∃ n, wr = w.drewN n) (fun _ i _ => os.length - (intOf i).toNat)
  case atStart => exact ⟨0, 0, Nat.zero_le _, rfl, rfl, by omega, by omega, 0, rfl⟩
  case round =>
    obtain ⟨k, t, hk, rfl, rfl, ht0, ht1, n, rfl⟩ := hrel
    by_cases hlt : k < os.length
    · obtain ⟨b, off, rfl, q0, q1, q2, r0, r1⟩ := h k hlt
      obtain ⟨b0, b1⟩ := hS k hlt hlt
      generalize os[k].kl.length = x at q0 b0
      generalize os[k].vl.length = y at q1 b1
      have i1 : (0 : Int) ≤ (k : Int) := by omega
      have i2 : (k : Int) < (os.length : Int) := by omega
      have i3 : IntKind.i64.wrap ((x : Int) + (y : Int)) = (x : Int) + (y : Int) := by rw [IntKind.wrap_i64]; omega
      have i4 : IntKind.i64.wrap ((x : Int) + (y : Int) + 8) = (x : Int) + (y : Int) + 8 := by rw [IntKind.wrap_i64]; omega
      have i5 : IntKind.i64.wrap (t + ((x : Int) + (y : Int) + 8)) = t + ((x : Int) + (y : Int) + 8) := by rw [IntKind.wrap_i64]; omega
      clear r0 r1 q2
      go_wp2
      go_quiet (fail)
      go_wp2
      all_goals first
        | (go_ret; exact ⟨Says.yes trivial, _, rfl⟩)
        | (go_roundw
           case rel => exact ⟨k + 1, _, by omega, by go_num, rfl, by omega, by omega, _, rfl⟩
           case measure => simp [intOf]; omega)
    · go_wp2
      go_ret
      exact ⟨Says.no _, _, rfl⟩
end Go.Proofs.Qxb6615097a
