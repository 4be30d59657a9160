/- Plain lists: the exchange of two places, a key's place, the heap's two walks. -/
namespace Go.Proofs.Qxb6615097a

/-- The entry's place in the deadline heap, -1 where it has none (as the database's text has it). -/
def posL (hp : List (List UInt8)) (k : List UInt8) : Int :=
  match hp.idxOf? k with
  | some i => (i : Int)
  | none => -1

theorem posL_at {hp : List (List UInt8)} (hn : hp.Nodup) {i : Nat} {k : List UInt8} (h : hp[i]? = some k) : posL hp k = (i : Int) := by
  have hi : i < hp.length := (List.getElem?_eq_some_iff.1 h).1
  have hk : hp[i] = k := (List.getElem?_eq_some_iff.1 h).2
  have : hp.idxOf? k = some i := by
    unfold List.idxOf?
    rw [List.findIdx?_eq_some_iff_getElem]
    refine ⟨hi, by simp [hk], fun j hj => ?_⟩
    have hjl : j < hp.length := by omega
    have : hp[j] ≠ hp[i] := fun e => by
      have := (List.getElem_inj hn).1 e
      omega
    rw [hk] at this
    simpa using this
  unfold posL
  rw [this]

theorem posL_out {hp : List (List UInt8)} {k : List UInt8} (h : k ∉ hp) : posL hp k = -1 := by
  unfold posL
  rw [List.idxOf?_eq_none_iff.2 h]

/-- The exchange of two places. -/
def swp (l : List (List UInt8)) (i j : Nat) : List (List UInt8) := (l.set i (l.getD j [])).set j (l.getD i [])

theorem swp_length (l : List (List UInt8)) (i j : Nat) : (swp l i j).length = l.length := by simp [swp]

theorem swp_get (l : List (List UInt8)) (i j m : Nat) (hi : i < l.length) (hj : j < l.length) :
    (swp l i j)[m]? = if m = j then l[i]? else if m = i then l[j]? else l[m]? := by
  unfold swp
  rw [List.getElem?_set, List.getElem?_set]
  by_cases h1 : m = j
  · subst h1
    simp [hj, hi]
  · by_cases h2 : m = i
    · subst h2
      simp [Ne.symm h1, hi, hj, h1]
    · simp [Ne.symm h1, Ne.symm h2, h1, h2]

theorem set_perm_aux {α : Type} : ∀ (l : List α) (i j : Nat) (a b : α), i < j → l[i]? = some a → l[j]? = some b → ((l.set i b).set j a).Perm l
  | [], i, j, a, b, _, h, _ => by simp at h
  | x :: r, 0, j + 1, a, b, _, h, h' => by
    simp at h h'
    subst h
    simp only [List.set_cons_zero, List.set_cons_succ]
    have hj : j < r.length := (List.getElem?_eq_some_iff.1 h').1
    have hb : r[j] = b := (List.getElem?_eq_some_iff.1 h').2
    have e1 : r.set j x = r.take j ++ x :: r.drop (j + 1) := List.set_eq_take_append_cons_drop .. |>.trans (by simp [hj])
    have e2 : r = r.take j ++ b :: r.drop (j + 1) := by
      conv => lhs; rw [← List.take_append_drop j r]
      rw [List.drop_eq_getElem_cons hj, hb]
    rw [e1]
    conv => rhs; rw [e2]
    refine List.Perm.trans (List.Perm.cons _ List.perm_middle) ?_
    refine List.Perm.trans (List.Perm.swap _ _ _) ?_
    exact List.Perm.cons _ List.perm_middle.symm
  | x :: r, i + 1, j + 1, a, b, hij, h, h' => by
    simp at h h'
    simp only [List.set_cons_succ]
    exact List.Perm.cons _ (set_perm_aux r i j a b (by omega) h h')
  | x :: r, i + 1, 0, a, b, hij, _, _ => by omega
  | x :: r, 0, 0, a, b, hij, _, _ => by omega

theorem swp_perm (l : List (List UInt8)) {i j : Nat} (hi : i < l.length) (hj : j < l.length) (hne : i ≠ j) : (swp l i j).Perm l := by
  unfold swp
  have h1 : l[i]? = some (l.getD i []) := by simp [hi]
  have h2 : l[j]? = some (l.getD j []) := by simp [hj]
  rcases Nat.lt_or_gt_of_ne hne with h | h
  · exact set_perm_aux l i j _ _ h h1 h2
  · rw [List.set_comm _ _ hne]
    exact set_perm_aux l j i _ _ h h2 h1

theorem swp_nodup {l : List (List UInt8)} {i j : Nat} (hn : l.Nodup) (hi : i < l.length) (hj : j < l.length) (hne : i ≠ j) : (swp l i j).Nodup := (swp_perm l hi hj hne).nodup_iff.2 hn

theorem swp_pos_i {l : List (List UInt8)} {i j : Nat} (hn : l.Nodup) (hi : i < l.length) (hj : j < l.length) (hne : i ≠ j) {k : List UInt8} (hk : l[i]? = some k) : posL (swp l i j) k = (j : Int) :=
  posL_at (swp_nodup hn hi hj hne) (by rw [swp_get l i j j hi hj]; simpa using hk)
theorem swp_pos_j {l : List (List UInt8)} {i j : Nat} (hn : l.Nodup) (hi : i < l.length) (hj : j < l.length) (hne : i ≠ j) {k : List UInt8} (hk : l[j]? = some k) : posL (swp l i j) k = (i : Int) :=
  posL_at (swp_nodup hn hi hj hne) (by rw [swp_get l i j i hi hj, if_neg hne]; simpa using hk)
theorem swp_pos_other {l : List (List UInt8)} {i j : Nat} (hn : l.Nodup) (hi : i < l.length) (hj : j < l.length) (hne : i ≠ j) {k : List UInt8} (h1 : l[i]? ≠ some k) (h2 : l[j]? ≠ some k) : posL (swp l i j) k = posL l k := by
  by_cases hk : k ∈ l
  · obtain ⟨m, hm⟩ := List.mem_iff_getElem?.1 hk
    have hmi : m ≠ i := fun e => h1 (e ▸ hm)
    have hmj : m ≠ j := fun e => h2 (e ▸ hm)
    rw [posL_at hn hm]
    exact posL_at (swp_nodup hn hi hj hne) (by rw [swp_get l i j m hi hj, if_neg hmj, if_neg hmi]; exact hm)
  · rw [posL_out hk, posL_out (fun h => hk ((swp_perm l hi hj hne).mem_iff.1 h))]

theorem swp_getD (l : List (List UInt8)) (i j m : Nat) (hi : i < l.length) (hj : j < l.length) :
    (swp l i j).getD m [] = if m = j then l.getD i [] else if m = i then l.getD j [] else l.getD m [] := by
  rw [List.getD_eq_getElem?_getD, swp_get l i j m hi hj]
  split
  · rw [List.getD_eq_getElem?_getD]
  · split
    · rw [List.getD_eq_getElem?_getD]
    · rw [List.getD_eq_getElem?_getD]

/-- container/heap.up, on the list of keys; f: a key's deadline. -/
def upL (f : List UInt8 → Int) : Nat → List (List UInt8) → Nat → List (List UInt8)
  | 0, hp, _ => hp
  | m + 1, hp, j => if (j - 1) / 2 = j ∨ ¬ f (hp.getD j []) < f (hp.getD ((j - 1) / 2) []) then hp else upL f m (swp hp ((j - 1) / 2) j) ((j - 1) / 2)

/-- The child that down looks at. -/
def kid (f : List UInt8 → Int) (n : Nat) (hp : List (List UInt8)) (i : Nat) : Nat :=
  if 2 * i + 1 + 1 < n ∧ f (hp.getD (2 * i + 1 + 1) []) < f (hp.getD (2 * i + 1) []) then 2 * i + 1 + 1 else 2 * i + 1

/-- container/heap.down. -/
def downL (f : List UInt8 → Int) (n : Nat) : Nat → List (List UInt8) → Nat → List (List UInt8) × Nat
  | 0, hp, i => (hp, i)
  | m + 1, hp, i => if n ≤ 2 * i + 1 ∨ ¬ f (hp.getD (kid f n hp i) []) < f (hp.getD i []) then (hp, i) else downL f n m (swp hp i (kid f n hp i)) (kid f n hp i)

theorem kid_bounds (f : List UInt8 → Int) (n : Nat) (hp : List (List UInt8)) (i : Nat) (h : 2 * i + 1 < n) : i < kid f n hp i ∧ kid f n hp i < n ∧ (kid f n hp i - 1) / 2 = i := by
  unfold kid
  split
  · omega
  · omega

theorem upL_facts (f : List UInt8 → Int) : ∀ (m : Nat) (hp : List (List UInt8)) (j : Nat), j < hp.length → (upL f m hp j).Perm hp ∧ ∀ s, j < s → (upL f m hp j)[s]? = hp[s]?
  | 0, hp, j, _ => ⟨List.Perm.refl _, fun _ _ => rfl⟩
  | m + 1, hp, j, hj => by
    unfold upL
    split
    · exact ⟨List.Perm.refl _, fun _ _ => rfl⟩
    · rename_i h
      have hne : (j - 1) / 2 ≠ j := fun e => h (.inl e)
      have hi : (j - 1) / 2 < hp.length := by omega
      obtain ⟨h1, h2⟩ := upL_facts f m (swp hp ((j - 1) / 2) j) ((j - 1) / 2) (by rw [swp_length]; exact hi)
      refine ⟨h1.trans (swp_perm hp hi hj hne), fun s hs => ?_⟩
      rw [h2 s (by omega), swp_get hp _ _ s hi hj, if_neg (by omega), if_neg (by omega)]

theorem downL_facts (f : List UInt8 → Int) (n : Nat) : ∀ (m : Nat) (hp : List (List UInt8)) (i : Nat), n ≤ hp.length → i < hp.length → (downL f n m hp i).1.Perm hp ∧ (i < n → (downL f n m hp i).2 < n) ∧ i ≤ (downL f n m hp i).2 ∧ ∀ s, n ≤ s → (downL f n m hp i).1[s]? = hp[s]?
  | 0, hp, i, _, hi => ⟨List.Perm.refl _, fun h => h, Nat.le_refl _, fun _ _ => rfl⟩
  | m + 1, hp, i, hn, hi => by
    unfold downL
    split
    · exact ⟨List.Perm.refl _, fun h => h, Nat.le_refl _, fun _ _ => rfl⟩
    · rename_i h
      have hlt : 2 * i + 1 < n := by
        rcases Nat.lt_or_ge (2 * i + 1) n with h' | h'
        · exact h'
        · exact absurd (.inl h') h
      obtain ⟨k1, k2, k3⟩ := kid_bounds f n hp i hlt
      have hj : kid f n hp i < hp.length := by omega
      obtain ⟨h1, h2, h3, h4⟩ := downL_facts f n m (swp hp i (kid f n hp i)) (kid f n hp i) (by rw [swp_length]; exact hn) (by rw [swp_length]; exact hj)
      refine ⟨h1.trans (swp_perm hp hi hj (by omega)), fun _ => h2 k2, by omega, fun s hs => ?_⟩
      rw [h4 s hs, swp_get hp _ _ s hi hj, if_neg (by omega), if_neg (by omega)]

/-! ### the heap's order -/
/-- Among the first n places no child is earlier than its parent. -/
def Ord (f : List UInt8 → Int) (hp : List (List UInt8)) (n : Nat) : Prop := ∀ s, 0 < s → s < n → f (hp.getD ((s - 1) / 2) []) ≤ f (hp.getD s [])
/-- .. but perhaps at j against its parent; and j's children are not earlier than j's parent. -/
def UpInv (f : List UInt8 → Int) (hp : List (List UInt8)) (n j : Nat) : Prop :=
  (∀ s, 0 < s → s < n → s ≠ j → f (hp.getD ((s - 1) / 2) []) ≤ f (hp.getD s [])) ∧ ∀ s, 0 < s → s < n → (s - 1) / 2 = j → 0 < j → f (hp.getD ((j - 1) / 2) []) ≤ f (hp.getD s [])
/-- .. but perhaps at i against its parent (x) and its children. -/
def DownInv (f : List UInt8 → Int) (hp : List (List UInt8)) (n i : Nat) (x : Bool) : Prop :=
  (∀ s, 0 < s → s < n → (x = true → s ≠ i) → (s - 1) / 2 ≠ i → f (hp.getD ((s - 1) / 2) []) ≤ f (hp.getD s [])) ∧ ∀ s, 0 < s → s < n → (s - 1) / 2 = i → 0 < i → f (hp.getD ((i - 1) / 2) []) ≤ f (hp.getD s [])

theorem upL_ord (f : List UInt8 → Int) (n : Nat) : ∀ (m : Nat) (hp : List (List UInt8)) (j : Nat), n ≤ hp.length → j < n → j ≤ m → UpInv f hp n j → Ord f (upL f m hp j) n
  | 0, hp, j, _, _, hm, h => by
    unfold upL
    intro s h1 h2
    exact h.1 s h1 h2 (by omega)
  | m + 1, hp, j, hn, hj, hm, h => by
    unfold upL
    split
    · rename_i hs
      intro s h1 h2
      by_cases e : s = j
      · subst e
        rcases hs with hs | hs
        · omega
        · omega
      · exact h.1 s h1 h2 e
    · rename_i hs
      have hne : (j - 1) / 2 ≠ j := fun e => hs (.inl e)
      have hlt : f (hp.getD j []) < f (hp.getD ((j - 1) / 2) []) := by
        by_cases hh : f (hp.getD j []) < f (hp.getD ((j - 1) / 2) [])
        · exact hh
        · exact absurd (.inr hh) hs
      have hi : (j - 1) / 2 < hp.length := by omega
      have hj' : j < hp.length := by omega
      refine upL_ord f n m _ _ (by rw [swp_length]; exact hn) (by omega) (by omega) ⟨?_, ?_⟩
      · intro s h1 h2 h3
        rw [swp_getD hp _ _ _ hi hj', swp_getD hp _ _ _ hi hj']
        by_cases e1 : s = j
        · subst e1
          rw [if_pos rfl, if_neg (by omega), if_pos rfl]
          omega
        · rw [if_neg e1, if_neg h3]
          by_cases e2 : (s - 1) / 2 = j
          · rw [if_pos e2]
            exact h.2 s h1 h2 e2 (by omega)
          · rw [if_neg e2]
            by_cases e3 : (s - 1) / 2 = (j - 1) / 2
            · rw [if_pos e3]
              have := h.1 s h1 h2 e1
              rw [e3] at this
              omega
            · rw [if_neg e3]
              exact h.1 s h1 h2 e1
      · intro s h1 h2 h3 h4
        have hp1 := h.1 ((j - 1) / 2) h4 (by omega) hne
        rw [swp_getD hp _ _ _ hi hj', swp_getD hp _ _ _ hi hj', if_neg (by omega), if_neg (by omega)]
        by_cases e1 : s = j
        · rw [if_pos e1]
          exact hp1
        · rw [if_neg e1, if_neg (by omega)]
          have := h.1 s h1 h2 e1
          rw [h3] at this
          omega

theorem kid_le (f : List UInt8 → Int) (n : Nat) (hp : List (List UInt8)) (i s : Nat) (h2 : s < n) (h0 : 0 < s) (h3 : (s - 1) / 2 = i) : f (hp.getD (kid f n hp i) []) ≤ f (hp.getD s []) := by
  have hs : s = 2 * i + 1 ∨ s = 2 * i + 1 + 1 := by omega
  unfold kid
  split
  · rename_i h
    rcases hs with rfl | rfl
    · omega
    · omega
  · rename_i h
    rcases hs with rfl | rfl
    · omega
    · have : ¬ f (hp.getD (2 * i + 1 + 1) []) < f (hp.getD (2 * i + 1) []) := fun hh => h ⟨h2, hh⟩
      omega

theorem downL_ord (f : List UInt8 → Int) (n : Nat) : ∀ (m : Nat) (hp : List (List UInt8)) (i : Nat) (x : Bool), n ≤ hp.length → i < n → n ≤ i + m → DownInv f hp n i x →
    ((x = true ∧ downL f n m hp i = (hp, i) ∧ UpInv f hp n i) ∨ ((x = true → i < (downL f n m hp i).2) ∧ Ord f (downL f n m hp i).1 n))
  | 0, hp, i, x, _, hi, hm, h => by omega
  | m + 1, hp, i, x, hn, hi, hm, h => by
    unfold downL
    split
    · rename_i hs
      have hk : ∀ s, 0 < s → s < n → (s - 1) / 2 = i → f (hp.getD i []) ≤ f (hp.getD s []) := by
        intro s h1 h2 h3
        rcases hs with hs | hs
        · omega
        · have := kid_le f n hp i s h2 h1 h3
          omega
      cases x with
      | true =>
        refine .inl ⟨rfl, rfl, ?_, h.2⟩
        intro s h1 h2 h3
        by_cases e : (s - 1) / 2 = i
        · rw [e]; exact hk s h1 h2 e
        · exact h.1 s h1 h2 (fun _ => h3) e
      | false =>
        refine .inr ⟨fun hx => (by cases hx), ?_⟩
        intro s h1 h2
        by_cases e : (s - 1) / 2 = i
        · rw [e]; exact hk s h1 h2 e
        · exact h.1 s h1 h2 (fun hx => by cases hx) e
    · rename_i hs
      have hlt : 2 * i + 1 < n := by
        rcases Nat.lt_or_ge (2 * i + 1) n with h' | h'
        · exact h'
        · exact absurd (.inl h') hs
      have hless : f (hp.getD (kid f n hp i) []) < f (hp.getD i []) := by
        by_cases hh : f (hp.getD (kid f n hp i) []) < f (hp.getD i [])
        · exact hh
        · exact absurd (.inr hh) hs
      obtain ⟨k1, k2, k3⟩ := kid_bounds f n hp i hlt
      have hil : i < hp.length := by omega
      have hjl : kid f n hp i < hp.length := by omega
      have hD : DownInv f (swp hp i (kid f n hp i)) n (kid f n hp i) false := by
        have hkl := fun s => kid_le f n hp i s
        generalize kid f n hp i = j at *
        refine ⟨?_, ?_⟩
        · intro s h1 h2 _ h4
          rw [swp_getD hp _ _ _ hil hjl, swp_getD hp _ _ _ hil hjl, if_neg h4]
          by_cases e1 : s = j
          · subst e1
            rw [if_pos k3, if_pos rfl]
            omega
          · rw [if_neg e1]
            by_cases e2 : (s - 1) / 2 = i
            · rw [if_pos e2, if_neg (by omega)]
              exact hkl s h2 h1 e2
            · rw [if_neg e2]
              by_cases e3 : s = i
              · subst e3
                rw [if_pos rfl]
                exact h.2 j (by omega) k2 k3 h1
              · rw [if_neg e3]
                exact h.1 s h1 h2 (fun _ => e3) e2
        · intro s h1 h2 h3 _
          rw [swp_getD hp _ _ _ hil hjl, swp_getD hp _ _ _ hil hjl, if_neg (by omega), if_pos k3, if_neg (by omega), if_neg (by omega)]
          have := h.1 s h1 h2 (fun _ => by omega) (by omega)
          rw [h3] at this
          exact this
      rcases downL_ord f n m _ _ false (by rw [swp_length]; exact hn) k2 (by omega) hD with ⟨hx, _⟩ | ⟨_, ho⟩
      · cases hx
      · refine .inr ⟨fun _ => ?_, ho⟩
        have := (downL_facts f n m (swp hp i (kid f n hp i)) (kid f n hp i) (by rw [swp_length]; exact hn) (by rw [swp_length]; exact hjl)).2.2.1
        omega

/-- 'if !down(h, i, n) { up(h, i) }'. -/
def dupL (f : List UInt8 → Int) (n : Nat) (hp : List (List UInt8)) (i : Nat) : List (List UInt8) :=
  if i < (downL f n n hp i).2 then (downL f n n hp i).1 else upL f i (downL f n n hp i).1 i

theorem dupL_facts (f : List UInt8 → Int) (n : Nat) (hp : List (List UInt8)) (i : Nat) (hn : n ≤ hp.length) (hi : i < n) : (dupL f n hp i).Perm hp ∧ ∀ s, n ≤ s → (dupL f n hp i)[s]? = hp[s]? := by
  obtain ⟨h1, h2, h3, h4⟩ := downL_facts f n n hp i hn (by omega)
  unfold dupL
  split
  · exact ⟨h1, h4⟩
  · obtain ⟨g1, g2⟩ := upL_facts f i (downL f n n hp i).1 i (by rw [h1.length_eq]; omega)
    exact ⟨g1.trans h1, fun s hs => (g2 s (by omega)).trans (h4 s hs)⟩

theorem dupL_ord (f : List UInt8 → Int) (n : Nat) (hp : List (List UInt8)) (i : Nat) (hn : n ≤ hp.length) (hi : i < n) (h : DownInv f hp n i true) : Ord f (dupL f n hp i) n := by
  unfold dupL
  rcases downL_ord f n n hp i true hn hi (by omega) h with ⟨_, he, hu⟩ | ⟨h1, h2⟩
  · rw [he]
    simp only [Nat.lt_irrefl, if_false]
    exact upL_ord f n i hp i hn hi (Nat.le_refl _) hu
  · rw [if_pos (h1 rfl)]
    exact h2

/-- container/heap.Remove, ahead of its Pop: the struck key stands last. -/
def remL (f : List UInt8 → Int) (hp : List (List UInt8)) (i : Nat) : List (List UInt8) :=
  if hp.length - 1 = i then hp else dupL f (hp.length - 1) (swp hp i (hp.length - 1)) i

theorem remL_facts (f : List UInt8 → Int) (hp : List (List UInt8)) (i : Nat) (hi : i < hp.length) : (remL f hp i).Perm hp ∧ (remL f hp i)[hp.length - 1]? = hp[i]? := by
  unfold remL
  split
  · rename_i h
    exact ⟨List.Perm.refl _, by rw [h]⟩
  · rename_i h
    obtain ⟨h1, h2⟩ := dupL_facts f (hp.length - 1) (swp hp i (hp.length - 1)) i (by rw [swp_length]; omega) (by omega)
    refine ⟨h1.trans (swp_perm hp hi (by omega) (Ne.symm h)), ?_⟩
    rw [h2 _ (Nat.le_refl _), swp_get hp _ _ _ hi (by omega), if_pos rfl]

theorem remL_ord (f : List UInt8 → Int) (hp : List (List UInt8)) (i : Nat) (hi : i < hp.length) (h : Ord f hp hp.length) : Ord f (remL f hp i) (hp.length - 1) := by
  unfold remL
  split
  · intro s h1 h2
    exact h s h1 (by omega)
  · rename_i hne
    have hj : hp.length - 1 < hp.length := by omega
    refine dupL_ord f (hp.length - 1) _ i (by rw [swp_length]; omega) (by omega) ⟨?_, ?_⟩
    · intro s h1 h2 h3 h4
      rw [swp_getD hp _ _ _ hi hj, swp_getD hp _ _ _ hi hj, if_neg (by omega), if_neg h4, if_neg (by omega), if_neg (h3 rfl)]
      exact h s h1 (by omega)
    · intro s h1 h2 h3 h4
      rw [swp_getD hp _ _ _ hi hj, swp_getD hp _ _ _ hi hj, if_neg (by omega), if_neg (by omega), if_neg (by omega), if_neg (by omega)]
      have g1 := h s h1 (by omega)
      have g2 := h i h4 hi
      rw [h3] at g1
      omega

/-- container/heap.Fix, at a key whose deadline alone has turned. -/
theorem fix_ord (f f' : List UInt8 → Int) (hp : List (List UInt8)) (i : Nat) (hi : i < hp.length) (hf : ∀ s, s < hp.length → s ≠ i → f' (hp.getD s []) = f (hp.getD s [])) (h : Ord f hp hp.length) : Ord f' (dupL f' hp.length hp i) hp.length := by
  refine dupL_ord f' hp.length hp i (Nat.le_refl _) hi ⟨?_, ?_⟩
  · intro s h1 h2 h3 h4
    rw [hf s h2 (h3 rfl), hf _ (by omega) h4]
    exact h s h1 h2
  · intro s h1 h2 h3 h4
    have g1 := h s h1 h2
    have g2 := h i h4 hi
    rw [h3] at g1
    rw [hf s h2 (by omega), hf _ (by omega) (by omega)]
    omega

/-- container/heap.Push. -/
theorem push_ord (f f' : List UInt8 → Int) (hp : List (List UInt8)) (k : List UInt8) (hf : ∀ s, s < hp.length → f' (hp.getD s []) = f (hp.getD s [])) (h : Ord f hp hp.length) : Ord f' (upL f' hp.length (hp ++ [k]) hp.length) (hp.length + 1) := by
  have hg : ∀ s, s < hp.length → (hp ++ [k]).getD s [] = hp.getD s [] := fun s hs => by rw [List.getD_eq_getElem?_getD, List.getElem?_append_left hs, List.getD_eq_getElem?_getD]
  refine upL_ord f' (hp.length + 1) hp.length (hp ++ [k]) hp.length (by simp) (by omega) (Nat.le_refl _) ⟨?_, ?_⟩
  · intro s h1 h2 h3
    rw [hg s (by omega), hg _ (by omega), hf s (by omega), hf _ (by omega)]
    exact h s h1 (by omega)
  · intro s h1 h2 h3 h4
    omega

theorem dropLast_get (hp : List (List UInt8)) (m : Nat) (h : m < hp.length - 1) : hp.dropLast[m]? = hp[m]? := by
  rw [List.getElem?_dropLast, if_pos h]

theorem dropLast_nodup {hp : List (List UInt8)} (hn : hp.Nodup) : hp.dropLast.Nodup := by
  rw [List.dropLast_eq_take]
  exact hn.sublist (List.take_sublist _ _)

theorem mem_dropLast {hp : List (List UInt8)} {k : List UInt8} (h : k ∈ hp.dropLast) : k ∈ hp := by
  rw [List.dropLast_eq_take] at h
  exact List.mem_of_mem_take h

theorem dropLast_not_mem {hp : List (List UInt8)} (hn : hp.Nodup) {k : List UInt8} (hk : hp[hp.length - 1]? = some k) : k ∉ hp.dropLast := by
  intro hm
  obtain ⟨m, hm⟩ := List.mem_iff_getElem?.1 hm
  have hml : m < hp.length - 1 := by
    have := (List.getElem?_eq_some_iff.1 hm).1
    simpa using this
  rw [dropLast_get hp m hml] at hm
  have h1 := posL_at hn hm
  have h2 := posL_at hn hk
  omega

theorem dropLast_mem {hp : List (List UInt8)} {k k' : List UInt8} (hk : hp[hp.length - 1]? = some k) (hne : k' ≠ k) : k' ∈ hp.dropLast ↔ k' ∈ hp := by
  constructor
  · intro h
    exact mem_dropLast h
  · intro h
    obtain ⟨m, hm⟩ := List.mem_iff_getElem?.1 h
    have hml : m < hp.length := (List.getElem?_eq_some_iff.1 hm).1
    have : m ≠ hp.length - 1 := fun e => by
      rw [e, hk] at hm
      cases hm
      exact hne rfl
    exact List.mem_iff_getElem?.2 ⟨m, (dropLast_get hp m (by omega)).trans hm⟩

theorem dropLast_pos {hp : List (List UInt8)} (hn : hp.Nodup) {k k' : List UInt8} (hk : hp[hp.length - 1]? = some k) (hne : k' ≠ k) : posL hp.dropLast k' = posL hp k' := by
  by_cases h : k' ∈ hp
  · obtain ⟨m, hm⟩ := List.mem_iff_getElem?.1 ((dropLast_mem hk hne).2 h)
    have hml : m < hp.length - 1 := by
      have := (List.getElem?_eq_some_iff.1 hm).1
      simpa using this
    rw [posL_at (dropLast_nodup hn) hm]
    rw [dropLast_get hp m hml] at hm
    rw [posL_at hn hm]
  · rw [posL_out h, posL_out (fun h' => h ((dropLast_mem hk hne).1 h'))]

theorem snoc_pos_other {hp : List (List UInt8)} {k k' : List UInt8} (hn : (hp ++ [k]).Nodup) (hne : k' ≠ k) : posL (hp ++ [k]) k' = posL hp k' := by
  have hn' : hp.Nodup := (List.nodup_append.1 hn).1
  by_cases h : k' ∈ hp
  · obtain ⟨m, hm⟩ := List.mem_iff_getElem?.1 h
    have hml : m < hp.length := (List.getElem?_eq_some_iff.1 hm).1
    rw [posL_at hn' hm]
    exact posL_at hn (by rw [List.getElem?_append_left hml]; exact hm)
  · rw [posL_out h, posL_out (by simp [h, hne])]

theorem snoc_pos_self {hp : List (List UInt8)} {k : List UInt8} (hn : (hp ++ [k]).Nodup) : posL (hp ++ [k]) k = (hp.length : Int) :=
  posL_at hn (by simp)

theorem snoc_nodup {hp : List (List UInt8)} {k : List UInt8} (hn : hp.Nodup) (hk : k ∉ hp) : (hp ++ [k]).Nodup := by
  rw [List.nodup_append]
  exact ⟨hn, by simp, fun a ha b hb => by simp at hb; subst hb; exact fun e => hk (e ▸ ha)⟩

end Go.Proofs.Qxb6615097a
