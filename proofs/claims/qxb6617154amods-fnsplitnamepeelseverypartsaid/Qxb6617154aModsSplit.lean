/-
  Contracts of hasSlash, bytealg.LastIndexByteString, strings.LastIndexByte, splitName, ZZSplitName (functions 8, 25, 24, 21, 9 of the dump), with the plain facts on bytes that they want.
-/
import Derived.Test.Qxb6617154aModsRows
import Derived.WalkKit
import Derived.ProofKit
import Derived.WalkSpells
import Derived.WalkLawsBesides
import Derived.Outline
import Derived.Deep.QuietTactic
import Derived.BigQuiet
namespace Go.Proofs.Qxb6617154aMods.Split
open Go.ChangeShapes Go.WideShapes Go.ChangeAt Go.RowKit

/-- does the text hold a '/' -/
def hs (s : ByteArray) : Bool := s.data.toList.contains 47

theorem at_some (s : ByteArray) (k : Nat) (h : k < s.size) : s.data.toList[k]? = some s[k] := by
  have h' : k < s.data.toList.length := by simpa using h
  rw [List.getElem?_eq_getElem h']
  rfl

theorem hs_yes (s : ByteArray) (k : Nat) (h : s.data.toList[k]? = some 47) : hs s = true := by
  unfold hs
  rw [List.contains_iff_mem]
  exact List.mem_of_getElem? h

theorem hs_no (s : ByteArray) (h : ∀ j, j < s.size → s.data.toList[j]? ≠ some 47) : hs s = false := by
  unfold hs
  rw [Bool.eq_false_iff]
  intro hc
  rw [List.contains_iff_mem] at hc
  obtain ⟨j, hj, he⟩ := List.getElem_of_mem hc
  exact h j (by simpa using hj) (by rw [List.getElem?_eq_getElem hj, he])

theorem byte_yes (c : UInt8) (h : ((c.toNat : Int) == 47) = true) : c = 47 := by
  have h1 : (c.toNat : Int) = 47 := by simpa using h
  apply UInt8.toNat_inj.mp
  show c.toNat = 47
  omega

theorem byte_no (c : UInt8) (h : ((c.toNat : Int) == 47) = false) : c ≠ 47 := by
  rintro rfl
  simp at h

theorem ret_bool {a b : Bool} (h : a = b) : Ending.returned (.bool a) = .returned (.bool b) := by rw [h]

set_option maxHeartbeats 400000 in
theorem hasSlash_any (s : ByteArray) (w : World) (hsz : s.size ≤ maxLen) :
    Calls Trym.prog 8 #[.string s] w fun e w' => e = .returned (.bool (hs s)) ∧ w' = w := by
  unfold maxLen at hsz
  go_enter Trym.func8, Trym.ntmps8
  go_wp2
  go_loop [3] (fun i => ∃ k : Nat, k ≤ s.size ∧ i = .int .i64 k ∧ ∀ j, j < k → s.data.toList[j]? ≠ some 47) (fun i => s.size - (intOf i).toNat)
  case atStart => exact ⟨0, Nat.zero_le _, rfl, fun j hj => absurd hj (Nat.not_lt_zero _)⟩
  case round =>
    obtain ⟨k, hk, rfl, hno⟩ := hrel
    have HN : Hid (∀ j, j < k → s.data.toList[j]? ≠ some 47) := hno
    clear hno
    by_cases hlt : k < s.size
    · go_wp2
      · have hb : ((s[k].toNat : Int) == 47) = true := by assumption
        go_ret
        exact ⟨ret_bool (hs_yes s k (by rw [at_some s k hlt, byte_yes _ hb])).symm, rfl⟩
      · have hb : ((s[k].toNat : Int) == 47) = false := by assumption
        go_round
        case rel =>
          refine ⟨k + 1, by omega, by go_num, fun j hj => ?_⟩
          by_cases e : j = k
          · subst e
            rw [at_some s j hlt]
            intro h
            exact byte_no _ hb (Option.some.inj h)
          · exact HN.out j (by omega)
        case measure => simp [intOf]; omega
    · go_wp2
      go_ret
      exact ⟨ret_bool (hs_no s (fun j hj => HN.out j (by omega))).symm, rfl⟩

/-- where the last '/' stands -/
def Last (s : ByteArray) (i : Int) : Prop :=
  (i = -1 ∧ ∀ j : Nat, s.data.toList[j]? ≠ some 47) ∨
  ∃ k : Nat, i = k ∧ k < s.size ∧ s.data.toList[k]? = some 47 ∧ ∀ j, k < j → s.data.toList[j]? ≠ some 47

theorem ret_int {k : IntKind} {a b : Int} (h : a = b) : Ending.returned (.int k a) = .returned (.int k b) := by rw [h]

set_option maxHeartbeats 400000 in
theorem lastIn_any (s : ByteArray) (w : World) (hsz : s.size ≤ maxLen) :
    Calls Trym.prog 25 #[.string s, .int .u8 47] w fun e w' => ∃ i, Last s i ∧ e = .returned (.int .i64 i) ∧ w' = w := by
  unfold maxLen at hsz
  go_enter Trym.func25, Trym.ntmps25
  go_wp2
  go_loop [5] (fun i => ∃ k : Nat, k ≤ s.size ∧ i = .int .i64 ((k : Int) - 1) ∧ ∀ j, k ≤ j → s.data.toList[j]? ≠ some 47) (fun i => (intOf i + 1).toNat)
  case atStart =>
    refine ⟨s.size, Nat.le_refl _, rfl, fun j hj => ?_⟩
    rw [List.getElem?_eq_none (by simpa using hj)]
    simp
  case round =>
    obtain ⟨k, hk, rfl, hno⟩ := hrel
    have HN : Hid (∀ j, k ≤ j → s.data.toList[j]? ≠ some 47) := hno
    clear hno
    by_cases h0 : 1 ≤ k
    · obtain ⟨m, rfl⟩ : ∃ m, k = m + 1 := ⟨k - 1, by omega⟩
      have e1 : ((m + 1 : Nat) : Int) - 1 = (m : Int) := by omega
      rw [e1]
      clear e1
      go_wp2
      · have hb : ((s[m].toNat : Int) == 47) = true := by assumption
        go_ret
        exact ⟨m, Or.inr ⟨m, rfl, by omega, by rw [at_some s m (by omega), byte_yes _ hb], fun j hj => HN.out j hj⟩, rfl, rfl⟩
      · have hb : ((s[m].toNat : Int) == 47) = false := by assumption
        go_round
        case rel =>
          refine ⟨m, by omega, rfl, fun j hj => ?_⟩
          by_cases e : j = m
          · subst e
            rw [at_some s j (by omega)]
            intro h
            exact byte_no _ hb (Option.some.inj h)
          · exact HN.out j (by omega)
        case measure => simp [intOf]
    · obtain rfl : k = 0 := by omega
      go_wp2
      go_ret
      exact ⟨-1, Or.inl ⟨rfl, fun j => HN.out j (Nat.zero_le _)⟩, rfl, rfl⟩

theorem last_any (s : ByteArray) (w : World) (hsz : s.size ≤ maxLen) :
    Calls Trym.prog 24 #[.string s, .int .u8 47] w fun e w' => ∃ i, Last s i ∧ e = .returned (.int .i64 i) ∧ w' = w := by
  go_enter Trym.func24, Trym.ntmps24
  go_wp2_with (go_at_call 25; refine (lastIn_any s _ hsz).mono ?_; rintro e w' ⟨i, hi, rfl, rfl⟩)
  go_ret
  exact ⟨i, hi, rfl, rfl⟩

/-- d, a '/', b -/
def join (d b : ByteArray) : ByteArray := d ++ ⟨#[47]⟩ ++ b

theorem join_list (d b : ByteArray) : (join d b).data.toList = d.data.toList ++ 47 :: b.data.toList := by
  unfold join
  simp [ByteArray.data_append]

theorem join_size (d b : ByteArray) : (join d b).size = d.size + 1 + b.size := by
  unfold join
  simp [ByteArray.size_append]
  rfl

theorem ba_ext {a b : ByteArray} (h : a.data.toList = b.data.toList) : a = b := by
  cases a; cases b
  simp only [ByteArray.mk.injEq]
  exact Array.toList_inj.mp h

theorem hs_mem (s : ByteArray) : hs s = true ↔ 47 ∈ s.data.toList := by
  unfold hs
  rw [List.contains_iff_mem]

theorem hs_not_mem (s : ByteArray) : hs s = false ↔ 47 ∉ s.data.toList := by
  rw [← hs_mem]
  cases hs s <;> simp

theorem no_get {l : List UInt8} (h : 47 ∉ l) (j : Nat) : l[j]? ≠ some 47 := fun he => h (List.mem_of_getElem? he)

theorem last_of_no {s : ByteArray} {i : Int} (h : Last s i) (hn : hs s = false) : i = -1 := by
  rcases h with ⟨rfl, _⟩ | ⟨k, _, _, hk, _⟩
  · rfl
  · exact absurd hk (no_get ((hs_not_mem s).1 hn) k)

theorem last_of_join {d b : ByteArray} {i : Int} (h : Last (join d b) i) (hn : hs b = false) : i = d.size := by
  have hl := join_list d b
  have hd : d.data.toList.length = d.size := by simp
  have hat : (join d b).data.toList[d.size]? = some 47 := by rw [hl, ← hd]; simp
  have hbe : ∀ j, d.size < j → (join d b).data.toList[j]? ≠ some 47 := by
    intro j hj
    rw [hl, List.getElem?_append_right (by omega)]
    obtain ⟨m, hm⟩ : ∃ m, j - d.data.toList.length = m + 1 := ⟨j - d.size - 1, by omega⟩
    rw [hm, List.getElem?_cons_succ]
    exact no_get ((hs_not_mem b).1 hn) m
  rcases h with ⟨_, h⟩ | ⟨k, rfl, _, hk, h⟩
  · exact absurd hat (h _)
  · rcases Nat.lt_trichotomy k d.size with hlt | rfl | hgt
    · exact absurd hat (h _ hlt)
    · rfl
    · exact absurd hk (hbe _ hgt)

theorem list_split : ∀ (l : List UInt8), 47 ∈ l → ∃ d b, l = d ++ 47 :: b ∧ 47 ∉ b
  | [], h => absurd h (by simp)
  | c :: l, h => by
    by_cases hl : 47 ∈ l
    · obtain ⟨d, b, rfl, hb⟩ := list_split l hl
      exact ⟨c :: d, b, rfl, hb⟩
    · have hc : (47 : UInt8) = c := by
        rcases List.mem_cons.1 h with h | h
        · exact h
        · exact absurd h hl
      subst hc
      exact ⟨[], l, rfl, hl⟩

theorem exists_join (s : ByteArray) (h : hs s = true) : ∃ d b, s = join d b ∧ hs b = false := by
  obtain ⟨d, b, he, hb⟩ := list_split _ ((hs_mem s).1 h)
  refine ⟨⟨d.toArray⟩, ⟨b.toArray⟩, ba_ext ?_, (hs_not_mem _).2 hb⟩
  rw [join_list, he]

theorem extract_list (s : ByteArray) (a b : Nat) : (s.extract a b).data.toList = (s.data.toList.take b).drop a := by
  rw [ByteArray.data_extract, Array.toList_extract]
  simp [List.extract_eq_take_drop, List.drop_take]

theorem join_dir (d b : ByteArray) : (join d b).extract 0 d.size = d := by
  apply ba_ext
  rw [extract_list, join_list]
  have hd : d.data.toList.length = d.size := by simp
  rw [← hd]
  simp

theorem join_base (d b : ByteArray) : (join d b).extract (d.size + 1) (join d b).size = b := by
  apply ba_ext
  have hd : d.data.toList.length = d.size := by simp
  have hj : (join d b).data.toList.length = (join d b).size := by simp
  rw [extract_list, ← hj, List.take_length, join_list, ← hd, ← List.drop_drop]
  simp

theorem hs_join (d b : ByteArray) : hs (join d b) = true := by
  rw [hs_mem, join_list]
  simp

/-- a text without a '/' -/
theorem split_no (s : ByteArray) (w : World) (hsz : s.size ≤ maxLen) (h : hs s = false) :
    Calls Trym.prog 21 #[.string s] w fun e w' => e = .returned (.tuple #[.string ⟨#[]⟩, .string s]) ∧ Grown w w' := by
  have H : Hid (hs s = false) := h
  clear h
  go_enter Trym.func21, Trym.ntmps21
  go_wp2_with (go_at_call 24; refine (last_any s _ hsz).mono ?_; rintro e w' ⟨i, hi, rfl, rfl⟩; obtain rfl := last_of_no hi H.out)
  go_ret2
  exact ⟨rfl, Grown.refl _⟩

theorem grown_drewN (w : World) (n : Nat) : Grown w (w.drewN n) := Grown.refl w

theorem grown_trans {a b c : World} (h : Grown a b) (h' : Grown b c) : Grown a c :=
  ⟨World.keptBut_trans h.1 h'.1, fun x => (h'.2.1 x).trans (h.2.1 x), Nat.le_trans h.2.2 h'.2.2⟩

theorem ret_two {a b c d : ByteArray} (h : a = c) (h' : b = d) : Ending.returned (.tuple #[.string a, .string b]) = .returned (.tuple #[.string c, .string d]) := by rw [h, h']

/-- a text with a '/': the directory, the base -/
theorem split_at (s d b : ByteArray) (w : World) (hsz : s.size ≤ 1048577) (hj : s = join d b) (h : hs b = false) :
    Calls Trym.prog 21 #[.string s] w fun e w' => e = .returned (.tuple #[.string d, .string b]) ∧ Grown w w' := by
  have H : Hid (hs b = false) := h
  have J : Hid (s = join d b) := hj
  have hlt : d.size < s.size := by rw [hj, join_size]; omega
  have E1 : Hid (s.extract 0 d.size = d) := by rw [hj]; exact join_dir d b
  have E2 : Hid (s.extract (d.size + 1) s.size = b) := by rw [hj]; exact join_base d b
  clear h hj
  go_enter Trym.func21, Trym.ntmps21
  go_wp2_with (go_at_call 24; refine (last_any s _ (by unfold maxLen; omega)).mono ?_; rintro e w' ⟨i, hi, rfl, rfl⟩; obtain rfl := last_of_join (J.out ▸ hi) H.out)
  go_quiet (fail)
  go_wp2
  go_ret2
  exact ⟨ret_two E1.out E2.out, grown_drewN _ _⟩

theorem zz_no (s : ByteArray) (w : World) (hsz : s.size ≤ maxLen) (h : hs s = false) :
    Calls Trym.prog 9 #[.string s] w fun e w' => e = .returned (.tuple #[.string ⟨#[]⟩, .string s]) ∧ Grown w w' := by
  go_enter Trym.func9, Trym.ntmps9
  go_wp2_with (go_at_call 21; refine (split_no s _ hsz h).mono ?_; rintro e w' ⟨rfl, hg⟩)
  go_ret2
  exact ⟨rfl, hg⟩

theorem zz_at (s d b : ByteArray) (w : World) (hsz : s.size ≤ 1048577) (hj : s = join d b) (h : hs b = false) :
    Calls Trym.prog 9 #[.string s] w fun e w' => e = .returned (.tuple #[.string d, .string b]) ∧ Grown w w' := by
  have J : Hid (s = join d b) := hj
  clear hj
  go_enter Trym.func9, Trym.ntmps9
  go_wp2_with (go_at_call 21; refine (split_at s d b _ hsz J.out h).mono ?_; rintro e w' ⟨rfl, hg⟩)
  go_ret2
  exact ⟨rfl, hg⟩

end Go.Proofs.Qxb6617154aMods.Split
