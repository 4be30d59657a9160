/- The database in memory: the map of entries, the entries, the row of the deadline heap; and the walks that only read it: Get, Kind, Deadline. -/
import Derived.Test.Qxb6615097aBytes
import Derived.Maps.OwnSet
namespace Go.Proofs.Qxb6615097a
open Go.RowKit
open Go.Maps (Keyed string_keyed)
open Go.WideMaps (keyOf_string_mk)

theorem law9 : Keyed Try.prog 9 := string_keyed Try.underlying9
theorem zero76 (w : World) : (zeroValue 76).run Try.prog w = .ok (.pointer none) w := by kernel_rfl

/-- How a pointer to a whole block reads: by the block's number (a ghost of the proof). -/
def ptrElem (v : Value) : Option (DataW Unit × List MemPlace) :=
  match v with
  | .pointer none => some (.nil, [])
  | .pointer (some ⟨b, 0, none⟩) => some (.lit (.int .i64 (b : Int)), [])
  | _ => none

theorem ptrElem_nil {v : Value} {ps : List MemPlace} (h : ptrElem v = some (.nil, ps)) : v = .pointer none := by
  unfold ptrElem at h
  split at h <;> simp at h
  rfl
theorem ptrElem_blk {v : Value} {b : Nat} {ps : List MemPlace} (h : ptrElem v = some (.lit (.int .i64 (b : Int)), ps)) : v = .pointer (some ⟨b, 0, none⟩) := by
  unfold ptrElem at h
  split at h <;> simp at h
  obtain ⟨h, _⟩ := h
  have := Int.ofNat.inj h
  subst this
  rfl

/-- A string out of bytes. -/
def str (k : List UInt8) : ByteArray := ⟨k.toArray⟩
theorem str_list (k : List UInt8) : (str k).data.toList = k := rfl
theorem str_inj {a b : List UInt8} (h : str a = str b) : a = b := by
  have := congrArg (fun s => s.data.toList) h
  exact this

/-- What the map holds at a key, as a datum. -/
def ptrD : Option Nat → DataW Unit
  | none => .nil
  | some b => .lit (.int .i64 (b : Int))

/-- Block mb is a map of at most n entries that leads the key k to the block M k. -/
def KeyMap (w : World) (mb n : Nat) (M : List UInt8 → Option Nat) : Prop :=
  ∃ D : DataW Unit, w.ownsMap Try.prog 9 ptrElem mb n D ∧ ∀ k, D.atKey (.string k) .nil = ptrD (M k) ∧ Maps.has D (.string k) = (M k).isSome

theorem KeyMap.look {w : World} {mb n : Nat} {M : List UInt8 → Option Nat} (h : KeyMap w mb n M) (k : List UInt8) (hk : k.length ≤ maxLen) :
    (Instr.lookup 70 (.map (some mb)) (.string (str k)) true).run Try.prog w = .ok (.tuple #[.pointer ((M k).map fun b => ⟨b, 0, none⟩), .bool (M k).isSome]) w := by
  obtain ⟨D, ho, hD⟩ := h
  obtain ⟨v, ps, hrun, hv⟩ := ho.look_ok law9 Try.underlying70 (zero76 w) (zd := .nil) (zp := []) rfl (keyOf_string_mk Try.underlying9 (s := str k) hk)
  rw [hrun]
  rw [str_list] at hv ⊢
  rw [(hD k).1] at hv
  rw [(hD k).2]
  cases hM : M k with
  | none => rw [hM] at hv; rw [ptrElem_nil hv]; rfl
  | some b => rw [hM] at hv; rw [ptrElem_blk hv]; rfl


/-- What one key holds: the entry's block, the value (nil read as none), whether it is a set, the deadline. -/
structure Ent where
  blk : Nat
  val : Option (List UInt8)
  set : Bool
  dl : Int

/-- The entry's place in the deadline heap, -1 where it has none. -/
def pos (hp : List (List UInt8)) (k : List UInt8) : Int :=
  match hp.idxOf? k with
  | some i => (i : Int)
  | none => -1

/-- The interface cell of an entry: nil, or a pointer to a set. -/
def CollAt (c : Value) (s : Bool) : Prop := (s = false ∧ c = .nilIface) ∨ (s = true ∧ ∃ a, c = .iface 84 (.pointer (some a)))

/-- The cells of an entry. -/
def ecells (k : List UInt8) (v c : Value) (dl idx : Int) : Array Value := #[.string (str k), v, c, .int .i64 dl, .int .i64 idx, .int .u64 0]

def EntAt (w : World) (hp : List (List UInt8)) (k : List UInt8) (e : Ent) : Prop :=
  ∃ v c, w.heap[e.blk]? = some (.cells (ecells k v c e.dl (pos hp k)) 82 (0, 0)) ∧ BV w v e.val ∧ CollAt c e.set

/-- The pointers in the row of the deadline heap. -/
def hptrs (E : List UInt8 → Option Ent) (hp : List (List UInt8)) : List Value := hp.map fun k => .pointer ((E k).map fun e => ⟨e.blk, 0, none⟩)

/-- THE DATABASE: its struct lies in block db; E: what each key holds; hp: the keys in the deadline heap, in its order. All that it may write lies from block B on. -/
structure DBI (B n : Nat) (w : World) (db mb : Nat) (dv : Value) (E : List UInt8 → Option Ent) (hp : List (List UInt8)) : Prop where
  low : B ≤ db
  low' : B ≤ mb
  head : w.heap[db]? = some (.cells #[.map (some mb), dv, .pointer none] 75 (0, 0))
  keys : KeyMap w mb n (fun k => (E k).map (·.blk))
  row : w.ownsRow B 76 1 dv hp.length (hptrs E hp)
  ent : ∀ k e, E k = some e → EntAt w hp k e ∧ B ≤ e.blk ∧ k.length ≤ 1048576
  nodup : hp.Nodup
  mem : ∀ k, k ∈ hp → (E k).isSome = true

/-- The world has turned in the database's blocks alone, and no row of bytes has. -/
def Fr (B : Nat) (w w' : World) : Prop := Below B w w' ∧ Keep5 w w'

theorem Fr.refl (B : Nat) (w : World) : Fr B w w := ⟨Below.refl _ _, Keep5.refl _⟩
theorem Fr.trans {B : Nat} {a b c : World} (h : Fr B a b) (k : Fr B b c) : Fr B a c := ⟨h.1.trans k.1, h.2.trans k.2⟩
theorem Fr.drewN (B : Nat) (w : World) (n : Nat) : Fr B w (w.drewN n) := ⟨⟨rfl, rfl, rfl, Nat.le_refl _, fun _ _ => rfl⟩, fun _ _ _ h => h⟩

theorem DBI.drewN {B n : Nat} {w : World} {db mb : Nat} {dv : Value} {E : List UInt8 → Option Ent} {hp : List (List UInt8)} (h : DBI B n w db mb dv E hp) (m : Nat) : DBI B n (w.drewN m) db mb dv E hp :=
  ⟨h.low, h.low', h.head, h.keys, h.row, h.ent, h.nodup, h.mem⟩

theorem DBI.cell0 {B n : Nat} {w : World} {db mb : Nat} {dv : Value} {E : List UInt8 → Option Ent} {hp : List (List UInt8)} (h : DBI B n w db mb dv E hp) : w.cell? ⟨db, 0, none⟩ = some (.map (some mb)) := by
  simp [World.cell?, h.head]
theorem DBI.cell1 {B n : Nat} {w : World} {db mb : Nat} {dv : Value} {E : List UInt8 → Option Ent} {hp : List (List UInt8)} (h : DBI B n w db mb dv E hp) : w.cell? ⟨db, 1, none⟩ = some dv := by
  simp [World.cell?, h.head]
theorem DBI.cell2 {B n : Nat} {w : World} {db mb : Nat} {dv : Value} {E : List UInt8 → Option Ent} {hp : List (List UInt8)} (h : DBI B n w db mb dv E hp) : w.cell? ⟨db, 2, none⟩ = some (.pointer none) := by
  simp [World.cell?, h.head]

/-- 'd.keys[string(key)]'. -/
theorem DBI.look {B n : Nat} {w : World} {db mb : Nat} {dv : Value} {E : List UInt8 → Option Ent} {hp : List (List UInt8)} (h : DBI B n w db mb dv E hp) (k : List UInt8) (hk : k.length ≤ maxLen) (m : Nat) :
    (Instr.lookup 70 (.map (some mb)) (.string (str k)) true).run Try.prog (w.drewN m) = .ok (.tuple #[.pointer ((E k).map fun e => ⟨e.blk, 0, none⟩), .bool (E k).isSome]) (w.drewN m) := by
  have := (h.drewN m).keys.look k hk
  rw [this]
  simp [Option.map_map, Function.comp_def]

/-- 'string(b)'. -/
theorem BV.conv {w : World} {v : Value} {l : Option (List UInt8)} (h : BV w v l) (m : Nat) : (convert 22 9 v).run Try.prog (w.drewN m) = .ok (.string (str (bts l))) (w.drewN m) := by
  rcases h with ⟨rfl, rfl⟩ | ⟨b, bs, rfl, hb, rfl, hn⟩
  · exact run_convert_bytes_nil (P := Try.prog) _ 22 5 Try.underlying22 Try.underlying5 0 0 9 Try.underlying9
  · exact run_convert_bytes_back (P := Try.prog) _ 22 9 5 ⟨b, 0, none⟩ bs.length bs Try.underlying22 Try.underlying5 Try.underlying9 (fun j hj => by
      rw [WideShapes.add_plain]
      simp only [World.cell?, World.heap_drewN, hb]
      simp [bcells, hj])

/-- What Get says of a key. -/
def getV (E : List UInt8 → Option Ent) (k : List UInt8) : Option (List UInt8) :=
  match E k with
  | some e => if e.set then none else e.val
  | none => none
def getOk (E : List UInt8 → Option Ent) (k : List UInt8) : Bool :=
  match E k with
  | some e => !e.set
  | none => false

theorem BV.len {w : World} {v : Value} {l : Option (List UInt8)} (h : BV w v l) : (bts l).length ≤ 1048576 := by
  obtain ⟨_, _, _, hn, _⟩ := h.shape
  exact hn

set_option maxHeartbeats 400000 in
theorem get_any {B n : Nat} {w : World} {db mb : Nat} {dv : Value} {E : List UInt8 → Option Ent} {hp : List (List UInt8)} (h : DBI B n w db mb dv E hp) {kv : Value} {l : Option (List UInt8)} (hk : BV w kv l) :
    Calls Try.prog 14 #[.pointer (some ⟨db, 0, none⟩), kv] w fun e w' => ∃ v, e = .returned (.tuple #[v, .bool (getOk E (bts l))]) ∧ BV w v (getV E (bts l)) ∧ ∃ m, w' = w.drewN m := by
  have hn := hk.len
  have hcv := hk.conv
  have hlk := h.look (bts l) (by unfold maxLen; omega)
  have c0 := h.cell0
  cases hE : E (bts l) with
  | none =>
    have HE := hide hE
    rw [hE] at hlk
    clear hE hk h hn
    simp only [Option.map_none, Option.isSome_none] at hlk
    go_enter Try.func14, Try.ntmps14
    go_wp2
    go_quiet (fail)
    go_wp2
    go_ret2
    refine ⟨_, by rw [getOk, HE.out]; rfl, ?_, _, rfl⟩
    rw [getV, HE.out]
    exact .inl ⟨rfl, rfl⟩
  | some e =>
    have HE := hide hE
    rw [hE] at hlk
    obtain ⟨⟨v, c, hb, hv, hc⟩, _, _⟩ := h.ent _ _ hE
    clear hE hk h hn
    simp only [Option.map_some, Option.isSome_some] at hlk
    have c1 : w.cell? ⟨e.blk, 1, none⟩ = some v := by simp [World.cell?, hb, ecells]
    have c2 : w.cell? ⟨e.blk, 2, none⟩ = some c := by simp [World.cell?, hb, ecells]
    clear hb
    have HV := hide hv
    obtain ⟨a, hva, _⟩ := hv.shape
    clear hv
    subst hva
    rcases hc with ⟨hs, rfl⟩ | ⟨hs, a2, rfl⟩
    · have HS := hide hs
      clear hs
      go_enter Try.func14, Try.ntmps14
      go_wp2
      go_quiet (fail)
      go_wp2
      go_ret2
      refine ⟨_, by rw [getOk, HE.out]; simp only [HS.out]; rfl, ?_, _, rfl⟩
      rw [getV, HE.out]
      simp only [HS.out]
      exact HV.out
    · have HS := hide hs
      clear hs
      go_enter Try.func14, Try.ntmps14
      go_wp2
      go_quiet (fail)
      go_wp2
      go_ret2
      refine ⟨_, by rw [getOk, HE.out]; simp only [HS.out]; rfl, ?_, _, rfl⟩
      rw [getV, HE.out]
      simp only [HS.out]
      exact .inl ⟨rfl, rfl⟩

/-- '(*Set).Kind'. -/
theorem setKind (a : Addr) (w : World) : Calls Try.prog 80 #[.pointer (some a)] w fun e w' => e = .returned (.int .u8 3) ∧ w' = w := by
  go_enter Try.func80, Try.ntmps80
  go_wp2
  go_ret
  exact ⟨rfl, rfl⟩

theorem kind_str {w : World} {b : Nat} (c2 : w.cell? ⟨b, 2, none⟩ = some .nilIface) : Calls Try.prog 44 #[.pointer (some ⟨b, 0, none⟩)] w fun e w' => e = .returned (.int .u8 0) ∧ w' = w := by
  go_enter Try.func44, Try.ntmps44
  go_wp2
  go_ret
  exact ⟨rfl, rfl⟩

theorem kind_set {w : World} {b : Nat} {a : Addr} (c2 : w.cell? ⟨b, 2, none⟩ = some (.iface 84 (.pointer (some a)))) : Calls Try.prog 44 #[.pointer (some ⟨b, 0, none⟩)] w fun e w' => e = .returned (.int .u8 3) ∧ w' = w := by
  have hm : ∀ (a : Addr) (w : World), (method 246 84 (.pointer (some a)) "Kind").run Try.prog w = .ok (80, .pointer (some a)) w := fun _ _ => by kernel_rfl
  go_enter Try.func44, Try.ntmps44
  go_wp2_with (go_at_call 80; refine (setKind _ _).mono ?_; rintro e w' ⟨rfl, rfl⟩)
  go_ret
  exact ⟨rfl, rfl⟩

/-- What Kind and Deadline say of a key. -/
def kindOf (E : List UInt8 → Option Ent) (k : List UInt8) : Int :=
  match E k with
  | some e => if e.set then 3 else 0
  | none => 0
def dlOf (E : List UInt8 → Option Ent) (k : List UInt8) : Int :=
  match E k with
  | some e => e.dl
  | none => 0

set_option maxHeartbeats 400000 in
theorem kind_any {B n : Nat} {w : World} {db mb : Nat} {dv : Value} {E : List UInt8 → Option Ent} {hp : List (List UInt8)} (h : DBI B n w db mb dv E hp) {kv : Value} {l : Option (List UInt8)} (hk : BV w kv l) :
    Calls Try.prog 15 #[.pointer (some ⟨db, 0, none⟩), kv] w fun e w' => e = .returned (.tuple #[.int .u8 (kindOf E (bts l)), .bool (E (bts l)).isSome]) ∧ ∃ m, w' = w.drewN m := by
  have hn := hk.len
  have hcv := hk.conv
  have hlk := h.look (bts l) (by unfold maxLen; omega)
  have c0 := h.cell0
  cases hE : E (bts l) with
  | none =>
    have HE := hide hE
    rw [hE] at hlk
    clear hE hk h hn
    simp only [Option.map_none, Option.isSome_none] at hlk
    go_enter Try.func15, Try.ntmps15
    go_wp2
    go_quiet (fail)
    go_wp2
    go_ret2
    exact ⟨by rw [kindOf, HE.out]; rfl, _, rfl⟩
  | some e =>
    have HE := hide hE
    rw [hE] at hlk
    obtain ⟨⟨v, c, hb, hv, hc⟩, _, _⟩ := h.ent _ _ hE
    clear hE hk h hn
    simp only [Option.map_some, Option.isSome_some] at hlk
    have c2 : w.cell? ⟨e.blk, 2, none⟩ = some c := by simp [World.cell?, hb, ecells]
    clear hb hv
    rcases hc with ⟨hs, rfl⟩ | ⟨hs, a2, rfl⟩
    · have HS := hide hs
      clear hs
      go_enter Try.func15, Try.ntmps15
      go_wp2
      go_quiet (fail)
      go_wp2_with (go_at_call 44; refine (kind_str ?_).mono ?_; exact c2; rintro e w' ⟨rfl, rfl⟩)
      go_ret2
      exact ⟨by rw [kindOf, HE.out]; simp only [HS.out]; rfl, _, rfl⟩
    · have HS := hide hs
      clear hs
      go_enter Try.func15, Try.ntmps15
      go_wp2
      go_quiet (fail)
      go_wp2_with (go_at_call 44; refine (kind_set (a := a2) ?_).mono ?_; exact c2; rintro e w' ⟨rfl, rfl⟩)
      go_ret2
      exact ⟨by rw [kindOf, HE.out]; simp only [HS.out]; rfl, _, rfl⟩

set_option maxHeartbeats 400000 in
theorem deadline_any {B n : Nat} {w : World} {db mb : Nat} {dv : Value} {E : List UInt8 → Option Ent} {hp : List (List UInt8)} (h : DBI B n w db mb dv E hp) {kv : Value} {l : Option (List UInt8)} (hk : BV w kv l) :
    Calls Try.prog 22 #[.pointer (some ⟨db, 0, none⟩), kv] w fun e w' => e = .returned (.tuple #[.int .i64 (dlOf E (bts l)), .bool (E (bts l)).isSome]) ∧ ∃ m, w' = w.drewN m := by
  have hn := hk.len
  have hcv := hk.conv
  have hlk := h.look (bts l) (by unfold maxLen; omega)
  have c0 := h.cell0
  cases hE : E (bts l) with
  | none =>
    have HE := hide hE
    rw [hE] at hlk
    clear hE hk h hn
    simp only [Option.map_none, Option.isSome_none] at hlk
    go_enter Try.func22, Try.ntmps22
    go_wp2
    go_quiet (fail)
    go_wp2
    go_ret2
    exact ⟨by rw [dlOf, HE.out]; rfl, _, rfl⟩
  | some e =>
    have HE := hide hE
    rw [hE] at hlk
    obtain ⟨⟨v, c, hb, hv, hc⟩, _, _⟩ := h.ent _ _ hE
    clear hE hk h hn
    simp only [Option.map_some, Option.isSome_some] at hlk
    have c2 : w.cell? ⟨e.blk, 3, none⟩ = some (.int .i64 e.dl) := by simp [World.cell?, hb, ecells]
    clear hb hv hc
    go_enter Try.func22, Try.ntmps22
    go_wp2
    go_quiet (fail)
    go_wp2
    go_ret2
    exact ⟨by rw [dlOf, HE.out]; rfl, _, rfl⟩
end Go.Proofs.Qxb6615097a
