/- The script of Sets as it came in: the walks that measure it. -/
import Derived.Test.Qxb6615097aBytes
namespace Go.Proofs.Qxb6615097a
open Go.RowKit

/-- A byte slice that came in. -/
def CameB (w : World) (a : Option Addr) (l : List UInt8) (c : Nat) : Prop := RdB w a l ∧ (a = none → l = [] ∧ c = 0) ∧ l.length ≤ maxLen

/-- One Set of a script that came in. -/
structure RawOp where
  ka : Option Addr
  kl : List UInt8
  kc : Nat
  va : Option Addr
  vl : List UInt8
  vc : Nat
  d : Int

/-- The script os lies at the slice's address a. -/
def OpsArg (w : World) (a : Option Addr) (os : List RawOp) : Prop :=
  ∀ i (h : i < os.length), ∃ b off, a = some ⟨b, off, none⟩ ∧ w.cell? ⟨b, off + i * 3, none⟩ = some (.slice os[i].ka os[i].kl.length os[i].kc) ∧ w.cell? ⟨b, off + i * 3 + 1, none⟩ = some (.slice os[i].va os[i].vl.length os[i].vc) ∧
    w.cell? ⟨b, off + i * 3 + 2, none⟩ = some (.int .i64 os[i].d) ∧ CameB w os[i].ka os[i].kl os[i].kc ∧ CameB w os[i].va os[i].vl os[i].vc

/-- The ending is a bool; where it is true, P holds. -/
def Says (e : Ending) (P : Prop) : Prop := ∃ b, e = .returned (.bool b) ∧ (b = true → P)
theorem Says.no (P : Prop) : Says (.returned (.bool false)) P := ⟨false, rfl, fun h => by cases h⟩
theorem Says.yes {P : Prop} (h : P) : Says (.returned (.bool true)) P := ⟨true, rfl, fun _ => h⟩

/-- Every key and value of the first k Sets is short. -/
def Short (os : List RawOp) (k : Nat) : Prop := ∀ i (h : i < os.length), i < k → os[i].kl.length ≤ 1048576 ∧ os[i].vl.length ≤ 1048576

set_option maxRecDepth 20000 in
set_option maxHeartbeats 1000000 in
theorem zzb39 (a : Option Addr) (os : List RawOp) (c : Nat) (qa : Option Addr) (qn qc : Nat) (w : World) (h : OpsArg w a os) (hn : os.length ≤ maxLen) (hq : qn ≤ maxLen) :
    Calls Try.prog 39 #[.slice a os.length c, .slice qa qn qc] w fun e w' => w = w' ∧ Says e (Short os os.length ∧ os.length ≤ 1048576 ∧ qn ≤ 1048576) := by
  unfold maxLen at hn hq
  by_cases hbig : os.length ≤ 1048576
  · go_enter Try.func39, Try.ntmps39
    go_wp2
    go_loop [5, 6] (fun n i => ∃ (k : Nat) (t : Int), k ≤ os.length ∧ i = .int .i64 k ∧ n = .int .i64 t ∧ 0 ≤ t ∧ t ≤ 1048576 ∧ Hid (Short os k)) (fun _ i => os.length - (intOf i).toNat)
    case atStart => exact ⟨0, os.length, Nat.zero_le _, rfl, rfl, by omega, by omega, fun i _ h => by omega⟩
    case round =>
      obtain ⟨k, t, hk, rfl, rfl, ht0, ht1, hS⟩ := hrel
      by_cases hlt : k < os.length
      · obtain ⟨b, off, rfl, q0, q1, q2, r0, r1⟩ := h k hlt
        have b0 := r0.2.2
        have b1 := r1.2.2
        unfold maxLen at b0 b1
        have HS2 : Hid (os[k].kl.length ≤ 1048576 → os[k].vl.length ≤ 1048576 → Short os (k + 1)) := fun h1 h2 i hi hik => by
          by_cases e : i = k
          · subst e; exact ⟨h1, h2⟩
          · exact hS.out i hi (by omega)
        clear r0 r1 q2
        go_wp2
        all_goals first
          | (go_ret; exact ⟨rfl, Says.no _⟩)
          | (go_round
             case rel => exact ⟨k + 1, _, by omega, by go_num, rfl, by omega, by omega, HS2.out (by omega) (by omega)⟩
             case measure => simp [intOf]; omega)
      · have hkk : Hid (Short os os.length) := by
          have : k = os.length := by omega
          rw [← this]; exact hS
        go_wp2
        all_goals first
          | (go_ret; exact ⟨rfl, Says.no _⟩)
          | (go_ret; exact ⟨rfl, Says.yes ⟨hkk.out, by omega⟩⟩)
  · go_enter Try.func39, Try.ntmps39
    go_wp2
    go_ret
    exact ⟨rfl, Says.no _⟩
set_option maxRecDepth 20000 in
set_option maxHeartbeats 1000000 in
theorem zzb17 (a : Option Addr) (os : List RawOp) (c : Nat) (w : World) (h : OpsArg w a os) (hn : os.length ≤ maxLen) :
    Calls Try.prog 17 #[.slice a os.length c] w fun e w' => w = w' ∧ Says e (Short os os.length ∧ os.length ≤ 1048576) := by
  unfold maxLen at hn
  by_cases hbig : os.length ≤ 1048576
  · go_enter Try.func17, Try.ntmps17
    go_wp2
    go_loop [3, 4] (fun n i => ∃ (k : Nat) (t : Int), k ≤ os.length ∧ i = .int .i64 k ∧ n = .int .i64 t ∧ 0 ≤ t ∧ t ≤ 1048576 ∧ Hid (Short os k)) (fun _ i => os.length - (intOf i).toNat)
    case atStart => exact ⟨0, os.length, Nat.zero_le _, rfl, rfl, by omega, by omega, fun i _ h => by omega⟩
    case round =>
      obtain ⟨k, t, hk, rfl, rfl, ht0, ht1, hS⟩ := hrel
      by_cases hlt : k < os.length
      · obtain ⟨b, off, rfl, q0, q1, q2, r0, r1⟩ := h k hlt
        have b0 := r0.2.2
        have b1 := r1.2.2
        unfold maxLen at b0 b1
        have HS2 : Hid (os[k].kl.length ≤ 1048576 → os[k].vl.length ≤ 1048576 → Short os (k + 1)) := fun h1 h2 i hi hik => by
          by_cases e : i = k
          · subst e; exact ⟨h1, h2⟩
          · exact hS.out i hi (by omega)
        clear r0 r1 q2
        go_wp2
        all_goals first
          | (go_ret; exact ⟨rfl, Says.no _⟩)
          | (go_round
             case rel => exact ⟨k + 1, _, by omega, by go_num, rfl, by omega, by omega, HS2.out (by omega) (by omega)⟩
             case measure => simp [intOf]; omega)
      · have hkk : Hid (Short os os.length) := by
          have : k = os.length := by omega
          rw [← this]; exact hS
        go_wp2
        go_ret
        first
          | exact ⟨rfl, Says.yes hkk.out⟩
          | exact ⟨rfl, Says.yes ⟨hkk.out, hbig⟩⟩
  · go_enter Try.func17, Try.ntmps17
    go_wp2
    go_ret
    exact ⟨rfl, Says.no _⟩

set_option maxRecDepth 20000 in
set_option maxHeartbeats 1000000 in
theorem zzb41 (a : Option Addr) (os : List RawOp) (c : Nat) (a1 a2 a4 : Option Addr) (n1 c1 n2 c2 n4 c4 : Nat) (d : Int) (w : World) (h : OpsArg w a os) (hn : os.length ≤ maxLen) (h1 : n1 ≤ maxLen) (h2 : n2 ≤ maxLen) (h4 : n4 ≤ maxLen) :
    Calls Try.prog 41 #[.slice a os.length c, .slice a1 n1 c1, .slice a2 n2 c2, .int .i64 d, .slice a4 n4 c4] w fun e w' => w = w' ∧ Says e (Short os os.length ∧ os.length ≤ 1048576 ∧ n1 ≤ 1048576 ∧ n2 ≤ 1048576 ∧ n4 ≤ 1048576) := by
  unfold maxLen at hn h1 h2 h4
  by_cases hbig : os.length ≤ 1048576
  · go_enter Try.func41, Try.ntmps41
    go_wp2
    go_loop [11, 12] (fun n i => ∃ (k : Nat) (t : Int), k ≤ os.length ∧ i = .int .i64 k ∧ n = .int .i64 t ∧ 0 ≤ t ∧ t ≤ 1048576 ∧ Hid (Short os k)) (fun _ i => os.length - (intOf i).toNat)
    case atStart => exact ⟨0, os.length, Nat.zero_le _, rfl, rfl, by omega, by omega, fun i _ h => by omega⟩
    case round =>
      obtain ⟨k, t, hk, rfl, rfl, ht0, ht1, hS⟩ := hrel
      by_cases hlt : k < os.length
      · obtain ⟨b, off, rfl, q0, q1, q2, r0, r1⟩ := h k hlt
        have b0 := r0.2.2
        have b1 := r1.2.2
        unfold maxLen at b0 b1
        have HS2 : Hid (os[k].kl.length ≤ 1048576 → os[k].vl.length ≤ 1048576 → Short os (k + 1)) := fun h1 h2 i hi hik => by
          by_cases e : i = k
          · subst e; exact ⟨h1, h2⟩
          · exact hS.out i hi (by omega)
        clear r0 r1 q2
        go_wp2
        all_goals first
          | (go_ret; exact ⟨rfl, Says.no _⟩)
          | (go_round
             case rel => exact ⟨k + 1, _, by omega, by go_num, rfl, by omega, by omega, HS2.out (by omega) (by omega)⟩
             case measure => simp [intOf]; omega)
      · have hkk : Hid (Short os os.length) := by
          have : k = os.length := by omega
          rw [← this]; exact hS
        go_wp2
        all_goals first
          | (go_ret; exact ⟨rfl, Says.no _⟩)
          | (go_ret; exact ⟨rfl, Says.yes ⟨hkk.out, by omega, by omega, by omega⟩⟩)
  · go_enter Try.func41, Try.ntmps41
    go_wp2
    go_ret
    exact ⟨rfl, Says.no _⟩
end Go.Proofs.Qxb6615097a
