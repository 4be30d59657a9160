/- Plain: which Sets of a script are the last on their key, how many of those bear a deadline, and the deadline heap's keys. -/
import Derived.Test.Qxb6615097aBuild
namespace Go.Proofs.Qxb6615097a
open Go.RowKit

/-- No Set from place j on names the key. -/
def noneFrom (cs : List COp) (key : List UInt8) (j : Nat) : Bool := (cs.drop j).all fun o => !(bts o.k == key)

theorem noneFrom_end (cs : List COp) (key : List UInt8) (j : Nat) (h : cs.length ≤ j) : noneFrom cs key j = true := by
  simp [noneFrom, List.drop_eq_nil_of_le h]

theorem noneFrom_step (cs : List COp) (key : List UInt8) (j : Nat) (h : j < cs.length) : noneFrom cs key j = (!(bts cs[j].k == key) && noneFrom cs key (j + 1)) := by
  simp only [noneFrom]
  rw [List.drop_eq_getElem_cons h, List.all_cons]

theorem noneFrom_iff (cs : List COp) (key : List UInt8) (j : Nat) : noneFrom cs key j = true ↔ ∀ m o, j ≤ m → cs[m]? = some o → bts o.k ≠ key := by
  simp only [noneFrom, List.all_eq_true]
  constructor
  · intro h m o hm ho
    have : o ∈ cs.drop j := by
      rw [List.mem_iff_getElem?]
      exact ⟨m - j, by rw [List.getElem?_drop]; rw [show j + (m - j) = m from by omega]; exact ho⟩
    simpa using h o this
  · intro h o ho
    obtain ⟨m, hm⟩ := List.mem_iff_getElem?.1 ho
    rw [List.getElem?_drop] at hm
    simpa using h (j + m) o (by omega) hm

/-- What the script says of the key of a Set that is the last on it. -/
theorem run_last (cs : List COp) (i : Nat) (o : COp) (ho : cs[i]? = some o) (hl : noneFrom cs (bts o.k) (i + 1) = true) : runM cs (bts o.k) = some (o.v, o.d) := by
  have hi : i < cs.length := (List.getElem?_eq_some_iff.1 ho).1
  have hio : cs[i] = o := (List.getElem?_eq_some_iff.1 ho).2
  rw [noneFrom_iff] at hl
  have : ∀ m, i + 1 + m ≤ cs.length → runM (cs.take (i + 1 + m)) (bts o.k) = some (o.v, o.d) := by
    intro m
    induction m with
    | zero => intro _; rw [Nat.add_zero, runM_snoc cs i hi, hio, stepM, if_pos rfl]
    | succ m ih =>
      intro hm
      have hlt : i + 1 + m < cs.length := by omega
      rw [show i + 1 + (m + 1) = i + 1 + m + 1 from by omega, runM_snoc cs _ hlt, stepM, if_neg (Ne.symm (hl (i + 1 + m) _ (by omega) (List.getElem?_eq_getElem hlt)))]
      exact ih (by omega)
  have h2 := this (cs.length - (i + 1)) (by omega)
  rw [show i + 1 + (cs.length - (i + 1)) = cs.length from by omega, List.take_length] at h2
  exact h2

theorem lastN_last (cs : List COp) (key : List UInt8) : ∀ n i : Nat, lastN cs key n = (i : Int) → ∀ m o, i < m → m < n → cs[m]? = some o → bts o.k ≠ key
  | 0, i, h => by simp [lastN] at h
  | n + 1, i, h => by
    intro m o hm hmn ho
    unfold lastN at h
    split at h
    · rename_i hk
      have : n = i := by omega
      omega
    · rename_i hk
      by_cases e : m = n
      · subst e
        rw [ho] at hk
        simpa using hk
      · exact lastN_last cs key n i h m o hm (by omega) ho

/-- A key that the script names has a last Set. -/
theorem run_some (cs : List COp) (key : List UInt8) (v : Option (List UInt8)) (d : Int) (h : runM cs key = some (v, d)) : ∃ i o, cs[i]? = some o ∧ bts o.k = key ∧ o.v = v ∧ o.d = d ∧ noneFrom cs key (i + 1) = true ∧ lastN cs key cs.length = (i : Int) := by
  rcases lastN_run cs key cs.length (Nat.le_refl _) with ⟨_, hr⟩ | ⟨i, o, hl, ho, hk, hr⟩
  · rw [List.take_length, h] at hr; cases hr
  · rw [List.take_length, h] at hr
    cases hr
    refine ⟨i, o, ho, hk, rfl, rfl, ?_, hl⟩
    rw [noneFrom_iff]
    intro m o' hm ho'
    exact lastN_last cs key cs.length i hl m o' (by omega) (List.getElem?_eq_some_iff.1 ho').1 ho'

/-- The Set at i is the last on its key and bears a deadline. -/
def lastNZ (cs : List COp) (i : Nat) : Bool :=
  match cs[i]? with
  | some o => noneFrom cs (bts o.k) (i + 1) && (o.d != 0)
  | none => false
def cnt (cs : List COp) (k : Nat) : Nat := ((List.range k).filter (lastNZ cs)).length
def keyAt (cs : List COp) (i : Nat) : List UInt8 := bts ((cs[i]?).map (·.k)).join

theorem keyAt_of {cs : List COp} {i : Nat} {o : COp} (h : cs[i]? = some o) : keyAt cs i = bts o.k := by
  unfold keyAt
  rw [h]
  rfl

theorem cnt_succ (cs : List COp) (k : Nat) : cnt cs (k + 1) = cnt cs k + (if lastNZ cs k then 1 else 0) := by
  unfold cnt
  rw [List.range_succ, List.filter_append, List.length_append]
  congr 1
  by_cases h : lastNZ cs k = true
  · simp [h]
  · simp [h]

theorem cnt_le (cs : List COp) (k : Nat) : cnt cs k ≤ k := by
  unfold cnt
  have := List.length_filter_le (lastNZ cs) (List.range k)
  simpa using this

/-- The heap holds as many keys as there are last Sets with a deadline. -/
theorem hp_length (cs : List COp) (hp : List (List UInt8)) (hn : hp.Nodup) (hm : ∀ k, k ∈ hp ↔ ∃ v d, runM cs k = some (v, d) ∧ d ≠ 0) : hp.length = cnt cs cs.length := by
  have hmem : ∀ i, i ∈ (List.range cs.length).filter (lastNZ cs) ↔ ∃ o, cs[i]? = some o ∧ noneFrom cs (bts o.k) (i + 1) = true ∧ o.d ≠ 0 := by
    intro i
    rw [List.mem_filter, List.mem_range]
    constructor
    · rintro ⟨h1, h2⟩
      have h3 : cs[i]? = some cs[i] := List.getElem?_eq_getElem h1
      unfold lastNZ at h2
      rw [h3] at h2
      simp only [Bool.and_eq_true, bne_iff_ne] at h2
      exact ⟨cs[i], h3, h2⟩
    · rintro ⟨o, h1, h2, h3⟩
      refine ⟨(List.getElem?_eq_some_iff.1 h1).1, ?_⟩
      unfold lastNZ
      rw [h1]
      simp only [Bool.and_eq_true, bne_iff_ne]
      exact ⟨h2, h3⟩
  have hnd : (((List.range cs.length).filter (lastNZ cs)).map (keyAt cs)).Nodup := by
    unfold List.Nodup
    rw [List.pairwise_map]
    have hp1 : ((List.range cs.length).filter (lastNZ cs)).Pairwise (· < ·) := List.Pairwise.filter _ List.pairwise_lt_range
    refine List.Pairwise.imp_of_mem ?_ hp1
    intro i j hi hj hij
    obtain ⟨o, h1, h2, _⟩ := (hmem i).1 hi
    obtain ⟨o', h1', _, _⟩ := (hmem j).1 hj
    rw [keyAt_of h1, keyAt_of h1']
    rw [noneFrom_iff] at h2
    exact Ne.symm (h2 j o' (by omega) h1')
  have hperm : hp.Perm (((List.range cs.length).filter (lastNZ cs)).map (keyAt cs)) := by
    rw [List.perm_ext_iff_of_nodup hn hnd]
    intro k
    rw [hm, List.mem_map]
    constructor
    · rintro ⟨v, d, hr, hd⟩
      obtain ⟨i, o, ho, hk, _, hod, hl, _⟩ := run_some cs k v d hr
      refine ⟨i, (hmem i).2 ⟨o, ho, by rw [hk]; exact hl, by rw [hod]; exact hd⟩, ?_⟩
      rw [keyAt_of ho, hk]
    · rintro ⟨i, hi, rfl⟩
      obtain ⟨o, h1, h2, h3⟩ := (hmem i).1 hi
      rw [keyAt_of h1]
      exact ⟨o.v, o.d, run_last cs i o h1 h2, h3⟩
  rw [hperm.length_eq, List.length_map]
  rfl
end Go.Proofs.Qxb6615097a
