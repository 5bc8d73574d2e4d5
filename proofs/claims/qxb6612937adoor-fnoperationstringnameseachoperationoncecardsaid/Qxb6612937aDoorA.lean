import Derived.Test.Qxb6612937aDoorRows
import Derived.WalkKit
import Derived.ProofKit
import Derived.WalkLawsBesides
import Derived.WalkSpells
namespace Go.Proofs.Qxb6612937aDoor
open Go.ChangeShapes Go.WideShapes Go.ChangeAt Go.RowKit

/-! String (5) -/
set_option maxHeartbeats 400000 in
theorem string_any (i : Nat) (hi : i ≤ 18) (s : ByteArray) (w : World) (hc : w.cell? ⟨0, i * 5, none⟩ = some (.string s)) :
    Calls Tryd.prog 5 #[.int .u8 i] w fun e w' => e = .returned (.string s) ∧ w' = w := by
  have h1 : (i : Int) < 19 := by omega
  go_enter Tryd.func5, Tryd.ntmps5
  go_wp2
  go_ret
  exact ⟨rfl, rfl⟩

/-! isWord (6) -/
set_option maxHeartbeats 400000 in
theorem isWord_nil (w : World) : Calls Tryd.prog 6 #[.string ByteArray.empty] w fun e w' => e = .returned (.bool true) ∧ w' = w := by
  go_enter Tryd.func6, Tryd.ntmps6
  go_wp2
  refine wp_loop_rounds 1 ?_
  rw [rounds_succ]
  go_wp2
  go_ret
  exact ⟨rfl, rfl⟩

set_option maxHeartbeats 800000 in
theorem isWord_in (s : ByteArray) (hs : s.size ≤ 1000) (h0 : 0 < s.size) (hne : s.toList.isEmpty = false) (w : World) (hall : ∀ k (h : k < s.size), (97 ≤ (s[k].toNat : Int) ∧ (s[k].toNat : Int) ≤ 122) ∨ (s[k].toNat : Int) = 95)
    (hf : ¬ ((s[0]'h0).toNat : Int) = 95) (hl : ¬ ((s[s.size - 1]'(by omega)).toNat : Int) = 95) :
    Calls Tryd.prog 6 #[.string s] w fun e w' => e = .returned (.bool true) ∧ w' = w := by
  have HA : Hid _ := hall
  have HF : Hid _ := hf
  have HL : Hid _ := hl
  clear hall hf hl
  go_enter Tryd.func6, Tryd.ntmps6
  go_wp2
  go_loop [3] (fun i => ∃ k : Nat, k ≤ s.size ∧ i = .int .i64 k) (fun i => s.size - (intOf i).toNat)
  case atStart => exact ⟨0, Nat.zero_le _, rfl⟩
  case round =>
    obtain ⟨k, hk, rfl⟩ := hrel
    by_cases hlt : k < s.size
    · have hA := HA.out k hlt
      have HK : Hid _ := hA
      clear hA HA HF HL
      go_wp2
      · exfalso
        have h := HK.out
        omega
      · go_round
        case rel => exact ⟨k + 1, by omega, by go_num⟩
        case measure => simp [intOf]; omega
      · go_round
        case rel => exact ⟨k + 1, by omega, by go_num⟩
        case measure => simp [intOf]; omega
      · exfalso
        have h := HK.out
        have h2 : (!((s[k].toNat : Int) == 95)) = true := by assumption
        simp at h2
        omega
      · go_round
        case rel => exact ⟨k + 1, by omega, by go_num⟩
        case measure => simp [intOf]; omega
    · clear HA
      have hb : (((s[0]'h0).toNat : Int) != 95) = true := by simpa using HF.out
      have hc : (((s[s.size - 1]'(by omega)).toNat : Int) != 95) = true := by simpa using HL.out
      clear HF HL
      go_wp2
      go_ret
      exact ⟨rfl, rfl⟩

/-! The names, off the listed datum -/
def nameOf : DataW Unit → List UInt8
  | .agg (.lit (.string l) :: _) => l
  | _ => []
def partsOf : DataW Unit → List (DataW Unit)
  | .agg xs => xs
  | _ => []
def names : List (List UInt8) := (partsOf Rows.laid_example_com_mlinzi_mlinzi_internal_policy_operations).map nameOf
def nm (i : Nat) : ByteArray := ⟨(names.getD i []).toArray⟩
def wordOK (l : List UInt8) : Bool := (l.all fun c => decide (97 ≤ c.toNat) && decide (c.toNat ≤ 122) || decide (c.toNat = 95)) && (l.isEmpty || decide ((l.headD 0).toNat ≠ 95) && decide ((l.getLastD 0).toNat ≠ 95)) && decide (l.length ≤ 1000)

theorem names_word : ∀ i : Fin 19, wordOK (names.getD i.val []) = true := by decide +kernel
theorem names_empty : ∀ i : Fin 19, (names.getD i.val []).isEmpty = decide (i.val = 0) := by decide +kernel
theorem names_same : ∀ i j : Fin 19, (names.getD i.val [] == names.getD j.val []) = decide (i.val = j.val) := by decide +kernel

theorem nm_list (i : Nat) : (nm i).toList = names.getD i [] := by
  rw [ByteArray.toList_eq]
  simp [nm]

/-- isWord of a name. -/
theorem isWord_nm (i : Nat) (hi : i ≤ 18) (w : World) : Calls Tryd.prog 6 #[.string (nm i)] w fun e w' => e = .returned (.bool true) ∧ w' = w := by
  have hw := names_word ⟨i, by omega⟩
  have hl := nm_list i
  generalize nm i = s at *
  generalize names.getD i [] = l at *
  simp only [wordOK, Bool.and_eq_true, decide_eq_true_eq] at hw
  obtain ⟨⟨ha, he⟩, hlen⟩ := hw
  have hd : s.data.toList = l := by rw [← ByteArray.toList_eq]; exact hl
  have hsz : l.length = s.size := by rw [← hd]; rfl
  by_cases h0 : 0 < s.size
  · have hne : s.toList.isEmpty = false := by
      rw [hl]
      cases l with
      | nil => simp at hsz; omega
      | cons a r => rfl
    have he' : decide ((l.headD 0).toNat ≠ 95) = true ∧ decide ((l.getLastD 0).toNat ≠ 95) = true := by
      rw [hl] at hne
      simpa [hne] using he
    have hg : ∀ k (h : k < s.size), s[k] ∈ l := fun k h => by
      rw [← hd]
      exact List.getElem_mem (l := s.data.toList) (n := k) (h := h)
    refine isWord_in s (by omega) h0 hne w (fun k h => ?_) ?_ ?_
    · have := List.all_eq_true.1 ha _ (hg k h)
      simp at this
      omega
    · have h1 : l.headD 0 = s[0]'h0 := by
        subst hd
        rw [List.headD_eq_head?_getD, List.head?_eq_getElem?, List.getElem?_eq_getElem (by omega)]
        rfl
      have := he'.1
      rw [h1] at this
      simp at this
      omega
    · have h1 : l.getLastD 0 = s[s.size - 1]'(by omega) := by
        subst hd
        rw [List.getLastD_eq_getLast?, List.getLast?_eq_getElem?, List.getElem?_eq_getElem (by omega)]
        rfl
      have := he'.2
      rw [h1] at this
      simp at this
      omega
  · obtain rfl : s = ByteArray.empty := by
      obtain ⟨d⟩ := s
      have hz : d.size = 0 := by
        have : ¬ 0 < d.size := h0
        omega
      rw [Array.eq_empty_of_size_eq_zero hz]
      rfl
    exact isWord_nil w

/-! The law (3) -/
set_option maxHeartbeats 400000 in
theorem law_out (a b : Int) (h : 18 < a ∨ 18 < b) (w : World) : Calls Tryd.prog 3 #[.int .u8 a, .int .u8 b] w fun e w' => e = .returned (.bool true) ∧ w' = w := by
  by_cases ha : 18 < a
  · go_enter Tryd.func3, Tryd.ntmps3
    go_wp2
    go_ret
    exact ⟨rfl, rfl⟩
  · have hb : 18 < b := by omega
    clear h
    go_enter Tryd.func3, Tryd.ntmps3
    go_wp2
    go_ret
    exact ⟨rfl, rfl⟩

set_option maxHeartbeats 400000 in
theorem law_in (i j : Nat) (hi : i ≤ 18) (hj : j ≤ 18) (w : World) (hc : ∀ k, k ≤ 18 → w.cell? ⟨0, k * 5, none⟩ = some (.string (nm k))) :
    Calls Tryd.prog 3 #[.int .u8 i, .int .u8 j] w fun e w' => e = .returned (.bool true) ∧ w' = w := by
  have ka := string_any i hi (nm i) w (hc i hi)
  have kb := string_any j hj (nm j) w (hc j hj)
  have kw := isWord_nm i hi w
  have e1 : (nm i).toList.isEmpty = ((i : Int) == 0) := by
    rw [nm_list, Bool.eq_iff_iff, names_empty ⟨i, by omega⟩]
    simp
  have e2 : ((nm i).toList == (nm j).toList) = ((i : Int) == (j : Int)) := by
    rw [nm_list, nm_list, Bool.eq_iff_iff, names_same ⟨i, by omega⟩ ⟨j, by omega⟩]
    simp
    omega
  have h1 : ¬ (18 : Int) < (i : Int) := by omega
  have h2 : ¬ (18 : Int) < (j : Int) := by omega
  clear hc
  generalize nm i = s at *
  generalize nm j = t at *
  go_enter Tryd.func3, Tryd.ntmps3
  go_wp2_with fail
  refine ka.mono ?_
  clear ka
  rintro e w1 ⟨rfl, hw⟩
  obtain rfl := hw.symm
  clear hw
  go_wp2_with fail
  refine kb.mono ?_
  clear kb
  rintro e w1 ⟨rfl, hw⟩
  obtain rfl := hw.symm
  clear hw
  go_wp2_with fail
  refine kw.mono ?_
  clear kw
  rintro e w1 ⟨rfl, hw⟩
  obtain rfl := hw.symm
  clear hw
  go_wp2
  go_ret
  exact ⟨rfl, rfl⟩

end Go.Proofs.Qxb6612937aDoor
