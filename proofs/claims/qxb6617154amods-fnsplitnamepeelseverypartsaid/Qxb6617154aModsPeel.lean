/-
  The plain law behind FnSplitNamePeelsEveryPart: the loop's invariant; no Go in sight.
-/
import Derived.Test.Qxb6617154aModsSplit
namespace Go.Proofs.Qxb6617154aMods.Split

/-- how many '/' -/
def cnt (l : List UInt8) : Nat := l.count 47

theorem cnt_le (l : List UInt8) : cnt l ≤ l.length := List.count_le_length

theorem cnt_snoc_yes (l : List UInt8) (c : UInt8) (h : c = 47) : cnt (l ++ [c]) = cnt l + 1 := by
  subst h; simp [cnt]

theorem cnt_snoc_no (l : List UInt8) (c : UInt8) (h : c ≠ 47) : cnt (l ++ [c]) = cnt l := by
  simp [cnt, h]

theorem take_snoc (s : ByteArray) (k : Nat) (h : k < s.size) : s.data.toList.take (k + 1) = s.data.toList.take k ++ [s[k]] := by
  rw [List.take_succ_eq_append_getElem (by simpa using h)]; rfl

/-- what holds at the head of round k: 'e' the end, 'c' what is still to split, 'N' the number of slashes -/
def Inv (s : ByteArray) (N k e : Nat) (c : ByteArray) : Prop :=
  (k ≤ N ∧ e ≤ s.size ∧ c = s.extract 0 e ∧ cnt c.data.toList + k = N) ∨ (k = N + 1 ∧ e = 0 ∧ c = ⟨#[]⟩)

theorem length_size (s : ByteArray) : s.data.toList.length = s.size := by simp

theorem extract_all (s : ByteArray) : s.extract 0 s.size = s := by
  apply ba_ext
  rw [extract_list, ← length_size, List.take_length, List.drop_zero]

theorem inv_start (s : ByteArray) : Inv s (cnt s.data.toList) 0 s.size s :=
  Or.inl ⟨Nat.zero_le _, Nat.le_refl _, (extract_all s).symm, rfl⟩

theorem inv_step {s c : ByteArray} {N k e : Nat} (h : Inv s N k e c) (hk : k < N) :
    ∃ d b, c = join d b ∧ hs b = false ∧ e = d.size + 1 + b.size ∧ e ≤ s.size ∧ s.extract (d.size + 1) e = b ∧ s.data.toList[d.size]? = some 47 ∧ Inv s N (k + 1) d.size d := by
  rcases h with ⟨_, he, hc, hn⟩ | ⟨h, _, _⟩
  · have hpos : 0 < cnt c.data.toList := by omega
    obtain ⟨d, b, hj, hb⟩ := exists_join c ((hs_mem c).2 (List.count_pos_iff.1 hpos))
    have hcl : c.data.toList = s.data.toList.take e := by rw [hc, extract_list]; simp
    have hce : c.size = e := by
      rw [← length_size, hcl, List.length_take, length_size]; omega
    have hde : d.size + 1 + b.size = e := by rw [← hce, hj, join_size]
    have hl := join_list d b
    rw [← hj] at hl
    have hdl := length_size d
    refine ⟨d, b, hj, hb, hde.symm, he, ?_, ?_, Or.inl ⟨by omega, by omega, ?_, ?_⟩⟩
    · apply ba_ext
      rw [extract_list, ← hcl, hl, ← hdl, ← List.drop_drop]
      simp
    · have h1 : c.data.toList[d.size]? = some 47 := by rw [hl, ← hdl]; simp
      rw [hcl, List.getElem?_take] at h1
      split at h1
      · exact h1
      · exact absurd h1 (by simp)
    · apply ba_ext
      rw [extract_list]
      have h2 : s.data.toList.take d.size = c.data.toList.take d.size := by
        rw [hcl, List.take_take, Nat.min_eq_left (by omega)]
      rw [h2, hl, ← hdl]
      simp
    · rw [hl] at hn
      have h0 : cnt b.data.toList = 0 := List.count_eq_zero.2 ((hs_not_mem b).1 hb)
      have h3 : cnt (d.data.toList ++ 47 :: b.data.toList) = cnt d.data.toList + (cnt b.data.toList + 1) := by
        unfold cnt; rw [List.count_append, List.count_cons_self]
      omega
  · omega

theorem inv_last {s c : ByteArray} {N e : Nat} (h : Inv s N N e c) : hs c = false ∧ c.size = e ∧ s.extract 0 e = c ∧ e ≤ s.size := by
  rcases h with ⟨_, he, hc, hn⟩ | ⟨h, _, _⟩
  · have hcl : c.data.toList = s.data.toList.take e := by rw [hc, extract_list]; simp
    have hce : c.size = e := by
      rw [← length_size, hcl, List.length_take, length_size]; omega
    exact ⟨(hs_not_mem c).2 (List.count_eq_zero.1 (by unfold cnt at hn; omega)), hce, hc.symm, he⟩
  · omega

theorem inv_next (s : ByteArray) (N : Nat) : Inv s N (N + 1) 0 ⟨#[]⟩ := Or.inr ⟨rfl, rfl, rfl⟩

theorem inv_end {s c : ByteArray} {N k e : Nat} (h : Inv s N k e c) (hk : N < k) : k = N + 1 ∧ e = 0 ∧ c = ⟨#[]⟩ := by
  rcases h with ⟨h, _⟩ | h
  · omega
  · exact h

theorem inv_le {s c : ByteArray} {N k e : Nat} (h : Inv s N k e c) : k ≤ N + 1 ∧ e ≤ s.size := by
  rcases h with ⟨h, h', _⟩ | ⟨h, h', _⟩ <;> omega
end Go.Proofs.Qxb6617154aMods.Split
