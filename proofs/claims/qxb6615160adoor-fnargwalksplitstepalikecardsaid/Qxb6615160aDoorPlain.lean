/-
  DERIVED. Seat b6615160aD: the plain law: a walk over steps, as lists of numbers; nothing of Go in it.
-/
namespace Go.Proofs.Qxb6615160aDoor
set_option linter.unusedVariables false

/-- The steps (change, run), laid out call by call. -/
def expand (L : List (Nat × Nat)) : List Nat := L.flatMap fun p => List.replicate p.2 p.1
/-- How many calls are held. -/
def cnt (E : List Nat) : Nat := (E.filter fun c => c != 3).length

theorem expand_append (A B : List (Nat × Nat)) : expand (A ++ B) = expand A ++ expand B := by simp [expand]
theorem expand_cons (p : Nat × Nat) (B : List (Nat × Nat)) : expand (p :: B) = List.replicate p.2 p.1 ++ expand B := by simp [expand]
theorem expand_nil : expand [] = [] := rfl
theorem cnt_append (A B : List Nat) : cnt (A ++ B) = cnt A + cnt B := by simp [cnt]
theorem cnt_replicate (n c : Nat) : cnt (List.replicate n c) = if c = 3 then 0 else n := by
  unfold cnt
  by_cases h : c = 3
  · subst h; simp
  · simp [h]

/-- Where the walk over L stands behind t calls. -/
structure St (L : List (Nat × Nat)) (t s d h : Nat) : Prop where
  le : s ≤ L.length
  time : t = (expand (L.take s)).length + d
  room : ∀ p, L[s]? = some p → d < p.2
  over : s = L.length → d = 0
  held : h = cnt ((expand L).take t)

theorem expand_split (L : List (Nat × Nat)) (s : Nat) (p : Nat × Nat) (h : L[s]? = some p) : expand L = expand (L.take s) ++ (List.replicate p.2 p.1 ++ expand (L.drop (s + 1))) := by
  obtain ⟨h1, h2⟩ := List.getElem?_eq_some_iff.1 h
  have : L = L.take s ++ (p :: L.drop (s + 1)) := by
    rw [← h2, ← List.drop_eq_getElem_cons h1, List.take_append_drop]
  conv => lhs; rw [this]
  rw [expand_append, expand_cons]

theorem expand_take_succ (L : List (Nat × Nat)) (s : Nat) (p : Nat × Nat) (h : L[s]? = some p) : expand (L.take (s + 1)) = expand (L.take s) ++ List.replicate p.2 p.1 := by
  obtain ⟨h1, h2⟩ := List.getElem?_eq_some_iff.1 h
  rw [List.take_succ_eq_append_getElem h1, expand_append, h2, expand_cons, expand_nil, List.append_nil]

theorem St.zero (L : List (Nat × Nat)) (hpos : ∀ p ∈ L, 1 ≤ p.2) : St L 0 0 0 0 where
  le := Nat.zero_le _
  time := by simp [expand]
  room := fun p hp => by have := hpos p (List.mem_of_getElem? hp); omega
  over := fun _ => rfl
  held := by simp [cnt]

theorem St.lt {L : List (Nat × Nat)} {t s d h : Nat} (k : St L t s d h) (ht : t < (expand L).length) : s < L.length := by
  by_cases hs : s < L.length
  · exact hs
  · have e : s = L.length := by have := k.le; omega
    have := k.time
    rw [k.over e, e, List.take_length] at this
    omega

theorem St.cur {L : List (Nat × Nat)} {t s d h : Nat} (k : St L t s d h) (p : Nat × Nat) (hp : L[s]? = some p) : (expand L)[t]? = some p.1 := by
  rw [expand_split L s p hp, k.time, List.getElem?_append_right (by omega), Nat.add_sub_cancel_left, List.getElem?_append_left (by simpa using k.room p hp)]
  simp [k.room p hp]

theorem St.next {L : List (Nat × Nat)} {t s d h : Nat} (k : St L t s d h) (hpos : ∀ p ∈ L, 1 ≤ p.2) (p : Nat × Nat) (hp : L[s]? = some p) :
    St L (t + 1) (if d + 1 = p.2 then s + 1 else s) (if d + 1 = p.2 then 0 else d + 1) (if p.1 = 3 then h else h + 1) := by
  have hat := k.cur p hp
  have hs : s < L.length := (List.getElem?_eq_some_iff.1 hp).1
  have hh : (if p.1 = 3 then h else h + 1) = cnt ((expand L).take (t + 1)) := by
    rw [List.take_add_one, hat, cnt_append, ← k.held]
    by_cases e : p.1 = 3
    · simp [cnt, e]
    · simp [cnt, e]
  have hd := k.room p hp
  by_cases e : d + 1 = p.2
  · rw [if_pos e, if_pos e]
    refine ⟨by omega, ?_, fun q hq => ?_, fun _ => rfl, hh⟩
    · rw [expand_take_succ L s p hp, List.length_append, List.length_replicate, k.time]; omega
    · have := hpos q (List.mem_of_getElem? hq); omega
  · rw [if_neg e, if_neg e]
    refine ⟨k.le, by rw [k.time]; omega, fun q hq => ?_, fun h => by omega, hh⟩
    rw [hp] at hq
    obtain rfl := Option.some.inj hq
    omega

theorem St.done {L : List (Nat × Nat)} {s d h : Nat} (k : St L (expand L).length s d h) : s = L.length ∧ d = 0 ∧ h = cnt (expand L) := by
  have hs : s = L.length := by
    by_cases hs : s < L.length
    · exfalso
      obtain ⟨p, hp⟩ : ∃ p, L[s]? = some p := ⟨_, List.getElem?_eq_getElem hs⟩
      have h1 := k.cur p hp
      have := (List.getElem?_eq_some_iff.1 h1).1
      omega
    · have := k.le; omega
  exact ⟨hs, k.over hs, by rw [k.held, List.take_length]⟩

/-- The held index never passes the number of calls. -/
theorem St.bounds {L : List (Nat × Nat)} {t s d h : Nat} (k : St L t s d h) : d ≤ t ∧ h ≤ t := by
  refine ⟨by have := k.time; omega, ?_⟩
  rw [k.held]
  unfold cnt
  have h1 := List.length_filter_le (fun c => c != 3) ((expand L).take t)
  have h2 : ((expand L).take t).length ≤ t := List.length_take_le _ _
  omega

/-- Splitting the step at place k at point q. -/
def splitAt (L : List (Nat × Nat)) (k q : Nat) : List (Nat × Nat) := L.take k ++ (((L.getD k (0, 0)).1, q) :: ((L.getD k (0, 0)).1, (L.getD k (0, 0)).2 - q) :: L.drop (k + 1))

theorem splitAt_length (L : List (Nat × Nat)) (k q : Nat) (hk : k < L.length) : (splitAt L k q).length = L.length + 1 := by
  simp [splitAt]; omega

theorem expand_splitAt (L : List (Nat × Nat)) (k q : Nat) (hk : k < L.length) (hq : q < (L.getD k (0, 0)).2) : expand (splitAt L k q) = expand L := by
  have hp : L[k]? = some (L.getD k (0, 0)) := by rw [List.getD_eq_getElem?_getD, List.getElem?_eq_getElem hk]; rfl
  rw [expand_split L k _ hp]
  unfold splitAt
  rw [expand_append, expand_cons, expand_cons, ← List.append_assoc (List.replicate _ _), List.replicate_append_replicate]
  congr 4
  show q + ((L.getD k (0, 0)).2 - q) = _
  omega

theorem splitAt_pos (L : List (Nat × Nat)) (k q : Nat) (hk : k < L.length) (hq0 : 1 ≤ q) (hq : q < (L.getD k (0, 0)).2) (hpos : ∀ p ∈ L, 1 ≤ p.2) : ∀ p ∈ splitAt L k q, 1 ≤ p.2 := by
  intro p hp
  unfold splitAt at hp
  rcases List.mem_append.1 hp with h | h
  · exact hpos p (List.mem_of_mem_take h)
  · rcases List.mem_cons.1 h with rfl | h
    · exact hq0
    · rcases List.mem_cons.1 h with rfl | h
      · show 1 ≤ (L.getD k (0, 0)).2 - q; omega
      · exact hpos p (List.mem_of_mem_drop h)

theorem splitAt_le4 (L : List (Nat × Nat)) (k q : Nat) (hk : k < L.length) (h4 : ∀ p ∈ L, p.1 ≤ 4) : ∀ p ∈ splitAt L k q, p.1 ≤ 4 := by
  intro p hp
  have hmem : L.getD k (0, 0) ∈ L := by rw [List.getD_eq_getElem?_getD, List.getElem?_eq_getElem hk]; exact List.getElem_mem hk
  unfold splitAt at hp
  rcases List.mem_append.1 hp with h | h
  · exact h4 p (List.mem_of_mem_take h)
  · rcases List.mem_cons.1 h with rfl | h
    · exact h4 (L.getD k (0, 0)) hmem
    · rcases List.mem_cons.1 h with rfl | h
      · exact h4 (L.getD k (0, 0)) hmem
      · exact h4 p (List.mem_of_mem_drop h)

theorem splitAt_lo (L : List (Nat × Nat)) (k q i : Nat) (hi : i < k) (hk : k < L.length) : (splitAt L k q)[i]? = L[i]? := by
  unfold splitAt
  rw [List.getElem?_append_left (by simp; omega), List.getElem?_take_of_lt hi]
theorem splitAt_at (L : List (Nat × Nat)) (k q : Nat) (hk : k < L.length) : (splitAt L k q)[k]? = some ((L.getD k (0, 0)).1, q) := by
  unfold splitAt
  rw [List.getElem?_append_right (by simp; omega)]
  simp [Nat.min_eq_left (Nat.le_of_lt hk)]
theorem splitAt_at1 (L : List (Nat × Nat)) (k q : Nat) (hk : k < L.length) : (splitAt L k q)[k + 1]? = some ((L.getD k (0, 0)).1, (L.getD k (0, 0)).2 - q) := by
  unfold splitAt
  rw [List.getElem?_append_right (by simp; omega)]
  simp [Nat.min_eq_left (Nat.le_of_lt hk)]
theorem splitAt_hi (L : List (Nat × Nat)) (k q i : Nat) (hi : k < i) (hk : k < L.length) : (splitAt L k q)[i + 1]? = L[i]? := by
  unfold splitAt
  rw [List.getElem?_append_right (by simp; omega)]
  rw [List.length_take, Nat.min_eq_left (Nat.le_of_lt hk), show i + 1 - k = (i - k - 1) + 1 + 1 by omega, List.getElem?_cons_succ, List.getElem?_cons_succ, List.getElem?_drop]
  congr 1; omega

end Go.Proofs.Qxb6615160aDoor
