import Derived.Test.Qxb6612921aA
namespace Go.Proofs.Qxb6612921a
open Go.ChangeShapes Go.WideShapes Go.ChangeAt Go.RowKit

set_option maxHeartbeats 400000 in
theorem ends_no (w : World) : Calls Try.prog 10 #[.string ByteArray.empty] w fun e w' => e = .returned (.bool false) ∧ w' = w := by
  go_enter Try.func10, Try.ntmps10
  go_wp2
  go_ret
  exact ⟨rfl, rfl⟩

theorem wrap_byte (b : UInt8) : wrap32 (b.toNat : Int) = (b.toNat : Int) := by
  have := b.toNat_lt
  unfold wrap32
  omega

set_option maxHeartbeats 400000 in
theorem ends_in (s : ByteArray) (hs : s.size ≤ 1048576) (h0 : 0 < s.size) (hne : s.toList.isEmpty = false) (w : World) (a b : Bool) (ha : alnB ((s[0]'h0).toNat : Int) = a) (hb : alnB ((s[s.size - 1]'(by omega)).toNat : Int) = b) : Calls Try.prog 10 #[.string s] w fun e w' => e = .returned (.bool (a && b)) ∧ w' = w := by
  have HA : Hid _ := ha
  have HB : Hid _ := hb
  clear ha hb
  go_enter Try.func10, Try.ntmps10
  go_wp2_with fail
  rw [wrap_byte]
  have k := aln_any ((s[0]'h0).toNat : Int) w
  rw [HA.out] at k
  refine k.mono ?_
  clear k HA
  rintro e w1 ⟨rfl, hw⟩
  obtain rfl := hw.symm
  clear hw
  cases a
  · go_wp2
    go_ret
    exact ⟨rfl, rfl⟩
  · go_wp2_with fail
    rw [wrap_byte]
    have k := aln_any ((s[s.size - 1]'(by omega)).toNat : Int) w
    rw [HB.out] at k
    refine k.mono ?_
    clear k HB
    rintro e w1 ⟨rfl, hw⟩
    obtain rfl := hw.symm
    clear hw
    go_wp2
    go_ret
    exact ⟨rfl, rfl⟩

theorem not_ends (s : ByteArray) (w : World) (v : Bool) (k : Calls Try.prog 10 #[.string s] w fun e w' => e = .returned (.bool v) ∧ w' = w) : Calls Try.prog 6 #[.string s] w fun e w' => e = .returned (.bool (!v)) ∧ w' = w := by
  have k9 : Calls Try.prog 9 #[.string s] w fun e w' => e = .returned (.bool (!v)) ∧ w' = w := by
    go_enter Try.func9, Try.ntmps9
    go_wp2_with fail
    refine k.mono ?_
    clear k
    rintro e w1 ⟨rfl, hw⟩
    obtain rfl := hw.symm
    go_wp2
    go_ret
    exact ⟨rfl, rfl⟩
  clear k
  go_enter Try.func6, Try.ntmps6
  go_wp2_with fail
  refine k9.mono ?_
  clear k9
  rintro e w1 ⟨rfl, hw⟩
  obtain rfl := hw.symm
  go_wp2
  go_ret
  exact ⟨rfl, rfl⟩

/-- What alnumAtEnds says of a list of bytes. -/
def endsB (l : List UInt8) : Bool := match l.head?, l.getLast? with
  | some a, some b => alnB (a.toNat : Int) && alnB (b.toNat : Int)
  | _, _ => false

/-! ZZnotAlnumAtEnds (6) -/
theorem zz_any (s : ByteArray) (hs : s.size ≤ 1048576) (w : World) : Calls Try.prog 6 #[.string s] w fun e w' => e = .returned (.bool (!endsB s.data.toList)) ∧ w' = w := by
  by_cases h0 : 0 < s.size
  · have hl : 0 < s.data.toList.length := h0
    have hne : s.toList.isEmpty = false := by
      rw [ByteArray.toList_eq]
      cases h : s.data.toList with
      | nil => rw [h] at hl; simp at hl
      | cons a r => rfl
    have e : endsB s.data.toList = (alnB ((s[0]'h0).toNat : Int) && alnB ((s[s.size - 1]'(by omega)).toNat : Int)) := by
      have e1 : s.data.toList.head? = some (s[0]'h0) := by
        rw [List.head?_eq_getElem?, List.getElem?_eq_getElem hl]; rfl
      have e2 : s.data.toList.getLast? = some (s[s.size - 1]'(by omega)) := by
        rw [List.getLast?_eq_getElem?, List.getElem?_eq_getElem (by omega)]; rfl
      unfold endsB
      rw [e1, e2]
    rw [e]
    exact not_ends s w _ (ends_in s hs h0 hne w _ _ rfl rfl)
  · have hz : s = ByteArray.empty := by
      obtain ⟨d⟩ := s
      have hd : d.size = 0 := by
        have : ¬ 0 < d.size := h0
        omega
      rw [Array.eq_empty_of_size_eq_zero hd]
      rfl
    subst hz
    exact not_ends ByteArray.empty w false (ends_no w)

end Go.Proofs.Qxb6612921a
