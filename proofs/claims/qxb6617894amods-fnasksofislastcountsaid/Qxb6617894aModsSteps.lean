/-
  Steps of the laws' loops, in plain words; rows of pairs cut.
-/
import Derived.Test.Qxb6617894aModsAsks
import Derived.Test.Qxb6617894aModsCopy
namespace Go.Proofs.Qxb6617894aMods.Asks
open Go.ChangeShapes Go.WideShapes Go.ChangeAt Go.RowKit

theorem Pairs.take {B : Nat} {w : World} {r : Option Addr} {l : List (Int × Int)} (h : Pairs B w r l) (k : Nat) : Pairs B w r (l.take k) := by
  intro i p hp
  rw [List.getElem?_take] at hp
  split at hp
  · exact h i p hp
  · exact absurd hp (by simp)

theorem Pairs.up {B B' : Nat} {w : World} {r : Option Addr} {l : List (Int × Int)} (h : Pairs B w r l) (hB : B ≤ B') : Pairs B' w r l := by
  intro i p hp
  obtain ⟨f1, f2, g, off, hr, hg, r⟩ := h i p hp
  exact ⟨f1, f2, g, off, hr, Nat.lt_of_lt_of_le hg hB, r⟩

theorem Pairs.drop {B : Nat} {w : World} {g : Nat} {l : List (Int × Int)} (h : Pairs B w (some ⟨g, 0, none⟩) l) (k : Nat) : Pairs B w (some ⟨g, k * 2, none⟩) (l.drop k) := by
  intro i p hp
  rw [List.getElem?_drop] at hp
  obtain ⟨f1, f2, g', off, hr, hg, h1, h2⟩ := h (k + i) p hp
  obtain ⟨rfl, rfl⟩ : g = g' ∧ 0 = off := by
    have := Option.some.inj hr
    injection this with h1 h2
    exact ⟨h1, h2⟩
  refine ⟨f1, f2, g, k * 2, rfl, hg, ?_, ?_⟩
  · rw [show k * 2 + i * 2 = 0 + (k + i) * 2 from by omega]; exact h1
  · rw [show k * 2 + i * 2 + 1 = 0 + (k + i) * 2 + 1 from by omega]; exact h2

/-- the ids seen in the first k entries -/
def Seen (l : List (Int × Int)) (k : Nat) (x : Int) : Bool := decide (x ∈ keys (l.take k))

theorem seen_yes {l : List (Int × Int)} {k : Nat} {x : Int} (h : Seen l k x = true) : x ∈ (l.take k).map Prod.fst := of_decide_eq_true h

theorem seen_no {l : List (Int × Int)} {k : Nat} {x : Int} (h : Seen l k x = false) : x ∉ (l.take k).map Prod.fst := of_decide_eq_false h

theorem seen_snoc {l : List (Int × Int)} {k : Nat} {p : Int × Int} (hp : l[k]? = some p) (y : Int) : (if y = p.1 then true else Seen l k y) = Seen l (k + 1) y := by
  unfold Seen keys
  rw [take_snoc l k p hp, List.map_append, List.map_cons, List.map_nil]
  by_cases e : y = p.1
  · rw [if_pos e]; simp [e]
  · rw [if_neg e]; simp [e]

theorem many_step_old {l : List (Int × Int)} {k : Nat} {p : Int × Int} (hp : l[k]? = some p) (h : Seen l k p.1 = true) : many (keys (l.take (k + 1))) = many (keys (l.take k)) := by
  unfold keys
  rw [take_snoc l k p hp, List.map_append, List.map_cons, List.map_nil, many_snoc, if_pos (seen_yes h)]

theorem many_step_new {l : List (Int × Int)} {k : Nat} {p : Int × Int} (hp : l[k]? = some p) (h : Seen l k p.1 = false) : many (keys (l.take (k + 1))) = many (keys (l.take k)) + 1 := by
  unfold keys
  rw [take_snoc l k p hp, List.map_append, List.map_cons, List.map_nil, many_snoc, if_neg (seen_no h)]

theorem only_step_old {r : Int → Option Int} {l : List (Int × Int)} {k : Nat} {p : Int × Int} (hp : l[k]? = some p) (h : Seen l k p.1 = true) : only r (keys (l.take (k + 1))) = only r (keys (l.take k)) := by
  unfold keys
  rw [take_snoc l k p hp, List.map_append, List.map_cons, List.map_nil, only_snoc, if_pos (seen_yes h)]

theorem only_step_in {r : Int → Option Int} {l : List (Int × Int)} {k : Nat} {p : Int × Int} (hp : l[k]? = some p) (hr : (r p.1).isSome = true) : only r (keys (l.take (k + 1))) = only r (keys (l.take k)) := by
  unfold keys
  rw [take_snoc l k p hp, List.map_append, List.map_cons, List.map_nil, only_snoc]
  rw [if_pos hr, ite_self]

theorem only_step_new {r : Int → Option Int} {l : List (Int × Int)} {k : Nat} {p : Int × Int} (hp : l[k]? = some p) (h : Seen l k p.1 = false) (hr : (r p.1).isSome = false) : only r (keys (l.take (k + 1))) = only r (keys (l.take k)) + 1 := by
  unfold keys
  rw [take_snoc l k p hp, List.map_append, List.map_cons, List.map_nil, only_snoc, if_neg (seen_no h), if_neg (by rw [hr]; simp)]

theorem cnt_le (l : List (Int × Int)) (k : Nat) : many (keys (l.take k)) ≤ k ∧ ∀ r, only r (keys (l.take k)) ≤ k := by
  have h : (keys (l.take k)).length ≤ k := by unfold keys; rw [List.length_map, List.length_take]; omega
  exact ⟨Nat.le_trans (many_le _) h, fun r => Nat.le_trans (only_le r _) h⟩

theorem in_whole {l : List (Int × Int)} {k : Nat} {p : Int × Int} (hp : l[k]? = some p) : (asks l p.1).isSome = true :=
  (asks_some_iff l p.1).2 (List.mem_map.2 ⟨p, List.mem_of_getElem? hp, rfl⟩)

theorem in_left {l : List (Int × Int)} {k ct : Nat} {p : Int × Int} (hp : l[k]? = some p) (hk : k < ct) : (asks (l.take ct) p.1).isSome = true :=
  in_whole (k := k) (by rw [List.getElem?_take, if_pos hk]; exact hp)

theorem in_right {l : List (Int × Int)} {k ct : Nat} {p : Int × Int} (hp : l[k]? = some p) (hk : ct ≤ k) : (asks (l.drop ct) p.1).isSome = true :=
  in_whole (k := k - ct) (by rw [List.getElem?_drop, show ct + (k - ct) = k from by omega]; exact hp)

theorem whole_right {l : List (Int × Int)} (ct : Nat) {x : Int} (h : (asks (l.drop ct) x).isSome = true) : asks l x = asks (l.drop ct) x := by
  have e := asks_append (l.take ct) (l.drop ct) x
  rw [List.take_append_drop] at e
  rw [e]
  cases hx : asks (l.drop ct) x with
  | some v => rfl
  | none => rw [hx] at h; exact absurd h (by simp)

theorem whole_left {l : List (Int × Int)} (ct : Nat) {x : Int} (h : (asks (l.drop ct) x).isSome = false) : asks l x = asks (l.take ct) x := by
  have e := asks_append (l.take ct) (l.drop ct) x
  rw [List.take_append_drop] at e
  rw [e]
  cases hx : asks (l.drop ct) x with
  | some v => rw [hx] at h; exact absurd h (by simp)
  | none => rfl

theorem whole_last {l : List (Int × Int)} {p : Int × Int} (hp : l[l.length - 1]? = some p) : asks l p.1 = some p.2 := by
  have hlt : l.length - 1 < l.length := (List.getElem?_eq_some_iff.1 hp).1
  have e := take_snoc l (l.length - 1) p hp
  rw [show l.length - 1 + 1 = l.length from by omega, List.take_length] at e
  rw [e, asks_snoc, upd_same]

theorem many_parts (l : List (Int × Int)) (ct : Nat) : many (keys l) = many (keys (l.drop ct)) + only (asks (l.drop ct)) (keys l) := by
  have h := many_split (l.take ct) (l.drop ct)
  rw [List.take_append_drop] at h
  exact h

end Go.Proofs.Qxb6617894aMods.Asks
