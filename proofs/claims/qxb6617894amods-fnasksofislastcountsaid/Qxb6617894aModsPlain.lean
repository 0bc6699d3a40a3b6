/-
  Plain facts on lists of entries (an id, a value): no Go in sight.
-/
import Derived.KernelRfl
namespace Go.Proofs.Qxb6617894aMods.Asks

/-- a map with one key set -/
def upd (m : Int → Option Int) (k v : Int) : Int → Option Int := fun x => if x = k then some v else m x

/-- what asksOf gives for a list of entries: at each id its last value -/
def asks (l : List (Int × Int)) : Int → Option Int := l.foldl (fun m p => upd m p.1 p.2) (fun _ => none)

theorem asks_nil (x : Int) : asks [] x = none := rfl

theorem asks_snoc (l : List (Int × Int)) (p : Int × Int) : asks (l ++ [p]) = upd (asks l) p.1 p.2 := by
  unfold asks
  rw [List.foldl_append]
  rfl

theorem upd_same (m : Int → Option Int) (k v : Int) : upd m k v k = some v := if_pos rfl
theorem upd_other (m : Int → Option Int) (k v x : Int) (h : x ≠ k) : upd m k v x = m x := if_neg h

theorem fold_append (l : List (Int × Int)) : ∀ (m : Int → Option Int) (x : Int),
    l.foldl (fun m p => upd m p.1 p.2) m x = match asks l x with | some v => some v | none => m x := by
  induction l with
  | nil => intro m x; rfl
  | cons p l ih =>
    intro m x
    have h1 := ih (upd m p.1 p.2) x
    have h2 := ih (upd (fun _ => none) p.1 p.2) x
    have h3 : asks (p :: l) x = l.foldl (fun m p => upd m p.1 p.2) (upd (fun _ => none) p.1 p.2) x := rfl
    rw [h3, h2]
    rw [List.foldl_cons, h1]
    cases asks l x with
    | some v => rfl
    | none =>
      simp only [upd]
      split <;> rfl

/-- the right part wins -/
theorem asks_append (a b : List (Int × Int)) (x : Int) : asks (a ++ b) x = match asks b x with | some v => some v | none => asks a x := by
  have h := fold_append b (asks a) x
  rw [← h]
  unfold asks
  rw [List.foldl_append]

/-- an id is a key just if it occurs -/
theorem asks_some_iff (l : List (Int × Int)) (x : Int) : (asks l x).isSome = true ↔ x ∈ l.map Prod.fst := by
  induction l with
  | nil => simp [asks_nil]
  | cons p l ih =>
    have h := asks_append [p] l x
    have e : [p] ++ l = p :: l := rfl
    rw [e] at h
    rw [h, List.map_cons, List.mem_cons, ← ih]
    have h1 : asks [p] x = if x = p.1 then some p.2 else none := rfl
    cases ha : asks l x with
    | some v => simp
    | none =>
      simp only [h1]
      split <;> simp_all

theorem asks_none_iff (l : List (Int × Int)) (x : Int) : (asks l x).isSome = false ↔ x ∉ l.map Prod.fst := by
  rw [← asks_some_iff]
  cases (asks l x).isSome <;> simp

/-! ### the different ids -/

/-- one id more -/
def add (acc : List Int) (x : Int) : List Int := if x ∈ acc then acc else acc ++ [x]

/-- the different ids of a list, in the order in which they come first -/
def ids (l : List Int) : List Int := l.foldl add []

theorem ids_snoc (l : List Int) (x : Int) : ids (l ++ [x]) = add (ids l) x := by
  unfold ids
  rw [List.foldl_append]
  rfl

theorem mem_fold (x : Int) : ∀ (l acc : List Int), x ∈ l.foldl add acc ↔ x ∈ acc ∨ x ∈ l
  | [], acc => by simp
  | y :: l, acc => by
    rw [List.foldl_cons, mem_fold x l]
    have h : x ∈ add acc y ↔ x ∈ acc ∨ x = y := by
      unfold add
      split
      · rename_i hy
        constructor
        · exact Or.inl
        · rintro (h | rfl)
          · exact h
          · exact hy
      · simp
    rw [h, List.mem_cons, or_assoc]

theorem mem_ids (l : List Int) (x : Int) : x ∈ ids l ↔ x ∈ l := by
  unfold ids
  rw [mem_fold]
  simp

theorem nodup_fold : ∀ (l acc : List Int), acc.Nodup → (l.foldl add acc).Nodup
  | [], _, h => h
  | y :: l, acc, h => by
    rw [List.foldl_cons]
    apply nodup_fold
    unfold add
    split
    · exact h
    · rename_i hy
      rw [List.nodup_append]
      refine ⟨h, by simp, ?_⟩
      intro a ha b hb
      rw [List.mem_singleton] at hb
      subst hb
      rintro rfl
      exact hy ha

theorem nodup_ids (l : List Int) : (ids l).Nodup := nodup_fold l [] List.nodup_nil

theorem length_le_of_subset : ∀ (a b : List Int), a.Nodup → (∀ x, x ∈ a → x ∈ b) → a.length ≤ b.length
  | [], _, _, _ => Nat.zero_le _
  | x :: a, b, hn, h => by
    rw [List.nodup_cons] at hn
    have hx : x ∈ b := h x List.mem_cons_self
    have hl := List.length_erase_of_mem hx
    have hpos : 0 < b.length := List.length_pos_of_mem hx
    have ih := length_le_of_subset a (b.erase x) hn.2 (fun y hy => by
      have hne : y ≠ x := fun e => hn.1 (e ▸ hy)
      exact (List.mem_erase_of_ne hne).2 (h y (List.mem_cons_of_mem _ hy)))
    rw [List.length_cons]
    omega

theorem length_eq_of_same (a b : List Int) (ha : a.Nodup) (hb : b.Nodup) (h : ∀ x, x ∈ a ↔ x ∈ b) : a.length = b.length :=
  Nat.le_antisymm (length_le_of_subset a b ha (fun x hx => (h x).1 hx)) (length_le_of_subset b a hb (fun x hx => (h x).2 hx))

/-- how many different ids -/
def many (l : List Int) : Nat := (ids l).length

theorem many_snoc (l : List Int) (x : Int) : many (l ++ [x]) = if x ∈ l then many l else many l + 1 := by
  unfold many
  rw [ids_snoc]
  unfold add
  by_cases h : x ∈ l
  · rw [if_pos ((mem_ids l x).2 h), if_pos h]
  · rw [if_neg (fun e => h ((mem_ids l x).1 e)), if_neg h]
    simp

theorem many_le (l : List Int) : many l ≤ l.length :=
  length_le_of_subset _ _ (nodup_ids l) (fun x hx => (mem_ids l x).1 hx)

theorem many_same (a b : List Int) (h : ∀ x, x ∈ a ↔ x ∈ b) : many a = many b :=
  length_eq_of_same _ _ (nodup_ids a) (nodup_ids b) (fun x => by rw [mem_ids, mem_ids, h])

theorem many_cons (l : List Int) (x : Int) : many (x :: l) = if x ∈ l then many l else many l + 1 := by
  have h : many (x :: l) = many (l ++ [x]) := many_same _ _ (fun y => by simp [or_comm])
  rw [h, many_snoc]

theorem filter_two (p : Int → Bool) : ∀ l : List Int, l.length = (l.filter p).length + (l.filter (fun x => !p x)).length
  | [] => rfl
  | x :: l => by
    have ih := filter_two p l
    cases hx : p x <;> simp [hx] <;> omega

theorem filter_snoc (p : Int → Bool) (l : List Int) (x : Int) : ((l ++ [x]).filter (fun x => !p x)).length = if p x then (l.filter (fun x => !p x)).length else (l.filter (fun x => !p x)).length + 1 := by
  cases hx : p x <;> simp [List.filter_append, hx]

/-- how many different ids that are no key of 'r' -/
def only (r : Int → Option Int) (l : List Int) : Nat := ((ids l).filter (fun x => !(r x).isSome)).length

theorem only_le (r : Int → Option Int) (l : List Int) : only r l ≤ l.length :=
  Nat.le_trans (List.length_filter_le _ _) (many_le l)

theorem only_snoc (r : Int → Option Int) (l : List Int) (x : Int) : only r (l ++ [x]) = if x ∈ l then only r l else if (r x).isSome then only r l else only r l + 1 := by
  unfold only
  rw [ids_snoc]
  unfold add
  by_cases h : x ∈ l
  · rw [if_pos ((mem_ids l x).2 h), if_pos h]
  · rw [if_neg (fun e => h ((mem_ids l x).1 e)), if_neg h]
    exact filter_snoc (fun x => (r x).isSome) (ids l) x

/-- all ids: the right part's and those of the left alone -/
theorem many_split (a b : List (Int × Int)) : many ((a ++ b).map Prod.fst) = many (b.map Prod.fst) + only (asks b) ((a ++ b).map Prod.fst) := by
  have h1 := filter_two (fun x => (asks b x).isSome)
  have h2 : ((ids ((a ++ b).map Prod.fst)).filter (fun x => (asks b x).isSome)).length = many (b.map Prod.fst) := by
    apply length_eq_of_same
    · exact List.Nodup.sublist List.filter_sublist (nodup_ids _)
    · exact nodup_ids _
    · intro x
      rw [List.mem_filter, mem_ids, mem_ids, asks_some_iff]
      constructor
      · exact fun h => h.2
      · intro h
        refine ⟨?_, h⟩
        rw [List.map_append, List.mem_append]
        exact Or.inr h
  have h3 := h1 (ids ((a ++ b).map Prod.fst))
  rw [h2] at h3
  exact h3
end Go.Proofs.Qxb6617894aMods.Asks
