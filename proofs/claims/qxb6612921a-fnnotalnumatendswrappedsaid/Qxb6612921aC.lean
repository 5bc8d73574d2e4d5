import Derived.Test.Qxb6612921aB
namespace Go.Proofs.Qxb6612921a
open Go.ChangeShapes Go.WideShapes Go.ChangeAt Go.RowKit

/-- It returned a bool. -/
def IsB (e : Ending) : Prop := ∃ b, e = .returned (.bool b)

set_option maxHeartbeats 400000 in
theorem zzBytes5_any (a b : ByteArray) (w0 : a.size ≤ maxLen) (w1 : b.size ≤ maxLen) (w : World) : Calls Try.prog 5 #[.string a, .string b] w fun e w' => IsB e ∧ w' = w := by
  unfold maxLen at w0 w1
  go_enter Try.func5, Try.ntmps5
  go_wp2
  all_goals go_ret
  all_goals exact ⟨⟨_, rfl⟩, rfl⟩

set_option maxHeartbeats 400000 in
theorem zzBytes8_any (c : Int) (b : ByteArray) (w1 : b.size ≤ maxLen) (w : World) : Calls Try.prog 8 #[.int .u8 c, .string b] w fun e w' => IsB e ∧ w' = w := by
  unfold maxLen at w1
  go_enter Try.func8, Try.ntmps8
  go_wp2
  all_goals go_ret
  all_goals exact ⟨⟨_, rfl⟩, rfl⟩

set_option maxHeartbeats 400000 in
theorem join_big (a b : ByteArray) (w0 : a.size ≤ maxLen) (w1 : b.size ≤ maxLen) (hbig : 65536 < a.size ∨ 65536 < b.size) (w : World) :
    Calls Try.prog 3 #[.string a, .string b] w fun e w' => e = .returned (.bool true) ∧ Grown w w' := by
  have k := zzBytes5_any a b w0 w1 w
  unfold maxLen at w0 w1
  go_enter Try.func3, Try.ntmps3
  go_wp2_with fail
  refine k.mono ?_
  clear k
  rintro e w1 ⟨⟨v, rfl⟩, hw⟩
  obtain rfl := hw.symm
  clear hw
  cases v
  · go_wp2
    go_ret
    exact ⟨rfl, Grown.refl _⟩
  · by_cases h : 65536 < a.size
    · have h' : (65536 : Int) < (a.size : Int) := by omega
      go_wp2
      go_ret
      exact ⟨rfl, Grown.refl _⟩
    · have h' : ¬ (65536 : Int) < (a.size : Int) := by omega
      have h'' : (65536 : Int) < (b.size : Int) := by omega
      clear hbig
      go_wp2
      go_ret
      exact ⟨rfl, Grown.refl _⟩

theorem endsB_parts (la lb : List UInt8) (ha : la ≠ []) (hb : lb ≠ []) : endsB (la.take 1 ++ lb.drop (lb.length - 1)) = endsB (la ++ lb) := by
  obtain ⟨a, ra, rfl⟩ : ∃ a ra, la = a :: ra := by
    cases la with
    | nil => exact absurd rfl ha
    | cons a ra => exact ⟨a, ra, rfl⟩
  obtain ⟨rb, b, rfl⟩ : ∃ rb b, lb = rb ++ [b] := ⟨lb.dropLast, lb.getLast hb, (List.dropLast_concat_getLast hb).symm⟩
  have e : (rb ++ [b]).drop ((rb ++ [b]).length - 1) = [b] := by simp
  rw [e]
  unfold endsB
  have h1 : (List.take 1 (a :: ra) ++ [b]).head? = some a := by simp
  have h2 : (List.take 1 (a :: ra) ++ [b]).getLast? = some b := by simp
  have h3 : (a :: ra ++ (rb ++ [b])).head? = some a := by simp
  have h4 : (a :: ra ++ (rb ++ [b])).getLast? = some b := by rw [← List.append_assoc]; exact List.getLast?_concat
  rw [h1, h2, h3, h4]

theorem endsB_of (s : ByteArray) (h0 : 0 < s.size) : endsB s.data.toList = (alnB ((s[0]'h0).toNat : Int) && alnB ((s[s.size - 1]'(by omega)).toNat : Int)) := by
  have hl : 0 < s.data.toList.length := h0
  have e1 : s.data.toList.head? = some (s[0]'h0) := by
    rw [List.head?_eq_getElem?, List.getElem?_eq_getElem hl]; rfl
  have e2 : s.data.toList.getLast? = some (s[s.size - 1]'(by omega)) := by
    rw [List.getLast?_eq_getElem?, List.getElem?_eq_getElem (by omega)]; rfl
  unfold endsB
  rw [e1, e2]

theorem t_list (a b : ByteArray) : (a.extract 0 1 ++ b.extract (b.size - 1) b.size).data.toList = a.data.toList.take 1 ++ b.data.toList.drop (b.data.toList.length - 1) := by
  have h : b.data.toList.length = b.size := rfl
  rw [h, ByteArray.data_append, ByteArray.data_extract, ByteArray.data_extract, Array.toList_append, Array.toList_extract, Array.toList_extract]
  simp [List.extract_eq_take_drop]
  exact List.take_of_length_le (by rw [List.length_drop, h]; omega)

theorem ab_list (a b : ByteArray) : (a ++ b).data.toList = a.data.toList ++ b.data.toList := by
  rw [ByteArray.data_append, Array.toList_append]

theorem grown_drewN (w : World) (n : Nat) : Grown w (w.drewN n) := Grown.refl w

set_option maxHeartbeats 800000 in
theorem join_both (a b : ByteArray) (w0 : a.size ≤ 65536) (w1 : b.size ≤ 65536) (ha : 0 < a.size) (hb : 0 < b.size) (hae : a.toList.isEmpty = false) (hbe : b.toList.isEmpty = false) (w : World) :
    Calls Try.prog 3 #[.string a, .string b] w fun e w' => e = .returned (.bool true) ∧ Grown w w' := by
  have k := zzBytes5_any a b (by unfold maxLen; omega) (by unfold maxLen; omega) w
  have h' : ¬ (65536 : Int) < (a.size : Int) := by omega
  have h'' : ¬ (65536 : Int) < (b.size : Int) := by omega
  have hsz : (a ++ b).size = a.size + b.size := by simp
  have HS : Hid (0 < (a ++ b).size ∧ (a ++ b).size ≤ 131072) := ⟨by omega, by omega⟩
  clear hsz
  go_enter Try.func3, Try.ntmps3
  go_wp2_with fail
  refine k.mono ?_
  clear k
  rintro e w1 ⟨⟨v, rfl⟩, hw⟩
  obtain rfl := hw.symm
  clear hw
  cases v
  · go_wp2
    go_ret
    exact ⟨rfl, Grown.refl _⟩
  · go_wp2_with fail
    generalize hs : a ++ b = s at *
    have h0 : 0 < s.size := HS.out.1
    have h1 : s.size ≤ 131072 := HS.out.2
    have k := zz_any s (by omega) w
    rw [endsB_of s h0] at k
    obtain ⟨x, hx⟩ : ∃ x, x = alnB ((s[0]'h0).toNat : Int) := ⟨_, rfl⟩
    obtain ⟨y, hy⟩ : ∃ y, y = alnB ((s[s.size - 1]'(by omega)).toNat : Int) := ⟨_, rfl⟩
    rw [← hx, ← hy] at k
    have HX : Hid _ := hx
    have HY : Hid _ := hy
    have HAB : Hid (a ++ b = s) := hs
    clear hx hy hs HS
    refine k.mono ?_
    clear k
    rintro e w1 ⟨rfl, hw⟩
    obtain rfl := hw.symm
    clear hw
    have kx := end_any ((s[0]'h0).toNat : Int) (by omega) (by have := (s[0]'h0).toNat_lt; omega) w
    have ky := end_any ((s[s.size - 1]'(by omega)).toNat : Int) (by omega) (by have := (s[s.size - 1]'(by omega)).toNat_lt; omega) w
    rw [← HX.out] at kx
    rw [← HY.out] at ky
    go_wp2_with fail
    refine kx.mono ?_
    clear kx
    rintro e w1 ⟨rfl, hw⟩
    obtain rfl := hw.symm
    clear hw
    have hal : a.data.toList ≠ [] := fun h => by have h2 : a.data.toList.length = a.size := rfl; rw [h] at h2; simp at h2; omega
    have hbl : b.data.toList ≠ [] := fun h => by have h2 : b.data.toList.length = b.size := rfl; rw [h] at h2; simp at h2; omega
    have hes : endsB s.data.toList = (x && y) := by rw [endsB_of s h0, HX.out, HY.out]
    have kt : ∀ W, Calls Try.prog 6 #[.string (a.extract 0 1 ++ b.extract (b.size - 1) b.size)] W fun e w' => e = .returned (.bool (!(x && y))) ∧ w' = W := fun W => by
      have := zz_any (a.extract 0 1 ++ b.extract (b.size - 1) b.size) (by simp; omega) W
      rw [t_list, endsB_parts _ _ hal hbl, ← ab_list, HAB.out, hes] at this
      exact this
    cases x
    · go_wp2_with fail
      go_quiet ((go_at_call 6; exact Calls.quiet_of_same (kt _)))
      go_wp2
      go_ret
      exact ⟨rfl, grown_drewN _ _⟩
    · go_wp2_with fail
      refine ky.mono ?_
      clear ky
      rintro e w1 ⟨rfl, hw⟩
      obtain rfl := hw.symm
      clear hw
      go_wp2_with fail
      go_quiet ((go_at_call 6; exact Calls.quiet_of_same (kt _)))
      go_wp2
      go_ret
      exact ⟨rfl, grown_drewN _ _⟩

set_option maxHeartbeats 800000 in
theorem join_left (a b : ByteArray) (w0 : a.size ≤ 65536) (w1 : b.size ≤ 65536) (hae : a.toList.isEmpty = true) (hlist : (a ++ b).data.toList = b.data.toList) (w : World) :
    Calls Try.prog 3 #[.string a, .string b] w fun e w' => e = .returned (.bool true) ∧ Grown w w' := by
  have k := zzBytes5_any a b (by unfold maxLen; omega) (by unfold maxLen; omega) w
  have h' : ¬ (65536 : Int) < (a.size : Int) := by omega
  have h'' : ¬ (65536 : Int) < (b.size : Int) := by omega
  have hsz : (a ++ b).size = a.size + b.size := by simp
  have HS : Hid ((a ++ b).size ≤ 131072) := show _ ≤ _ by omega
  have HE : Hid (endsB (a ++ b).data.toList = endsB b.data.toList) := by show _ = _; rw [hlist]
  clear hsz hlist
  go_enter Try.func3, Try.ntmps3
  go_wp2_with fail
  refine k.mono ?_
  clear k
  rintro e w1 ⟨⟨v, rfl⟩, hw⟩
  obtain rfl := hw.symm
  clear hw
  cases v
  · go_wp2
    go_ret
    exact ⟨rfl, Grown.refl _⟩
  · go_wp2_with fail
    generalize a ++ b = s at *
    have h1 : s.size ≤ 131072 := HS.out
    have kp : Calls Try.prog 6 #[.string b] w fun e w' => e = .returned (.bool (!endsB s.data.toList)) ∧ w' = w := by
      rw [HE.out]
      exact zz_any b (by omega) w
    have k := zz_any s (by omega) w
    clear HS HE
    by_cases h0 : 0 < s.size
    · rw [endsB_of s h0] at k kp
      obtain ⟨x, hx⟩ : ∃ x, x = alnB ((s[0]'h0).toNat : Int) := ⟨_, rfl⟩
      obtain ⟨y, hy⟩ : ∃ y, y = alnB ((s[s.size - 1]'(by omega)).toNat : Int) := ⟨_, rfl⟩
      rw [← hx, ← hy] at k kp
      have HX : Hid _ := hx
      have HY : Hid _ := hy
      clear hx hy
      refine k.mono ?_
      clear k
      rintro e w1 ⟨rfl, hw⟩
      obtain rfl := hw.symm
      clear hw
      have kx := end_any ((s[0]'h0).toNat : Int) (by omega) (by have := (s[0]'h0).toNat_lt; omega) w
      have ky := end_any ((s[s.size - 1]'(by omega)).toNat : Int) (by omega) (by have := (s[s.size - 1]'(by omega)).toNat_lt; omega) w
      rw [← HX.out] at kx
      rw [← HY.out] at ky
      go_wp2_with fail
      refine kx.mono ?_
      clear kx HX
      rintro e w1 ⟨rfl, hw⟩
      obtain rfl := hw.symm
      clear hw
      cases x
      · go_wp2_with fail
        refine kp.mono ?_
        clear kp
        rintro e w1 ⟨rfl, hw⟩
        obtain rfl := hw.symm
        clear hw
        go_wp2
        go_ret
        exact ⟨rfl, Grown.refl _⟩
      · go_wp2_with fail
        refine ky.mono ?_
        clear ky HY
        rintro e w1 ⟨rfl, hw⟩
        obtain rfl := hw.symm
        clear hw
        go_wp2_with fail
        refine kp.mono ?_
        clear kp
        rintro e w1 ⟨rfl, hw⟩
        obtain rfl := hw.symm
        clear hw
        go_wp2
        go_ret
        exact ⟨rfl, Grown.refl _⟩
    · have hz : endsB s.data.toList = false := by
        have : s.data.toList = [] := List.eq_nil_of_length_eq_zero (show s.size = 0 by omega)
        rw [this]; rfl
      rw [hz] at k kp
      clear hz
      have hs0 : ¬ (0 : Int) < (s.size : Int) := by omega
      refine k.mono ?_
      clear k
      rintro e w1 ⟨rfl, hw⟩
      obtain rfl := hw.symm
      clear hw
      go_wp2_with fail
      refine kp.mono ?_
      clear kp
      rintro e w1 ⟨rfl, hw⟩
      obtain rfl := hw.symm
      clear hw
      go_wp2
      go_ret
      exact ⟨rfl, Grown.refl _⟩

set_option maxHeartbeats 800000 in
theorem join_right (a b : ByteArray) (w0 : a.size ≤ 65536) (w1 : b.size ≤ 65536) (hae : a.toList.isEmpty = false) (hbe : b.toList.isEmpty = true) (hlist : (a ++ b).data.toList = a.data.toList) (w : World) :
    Calls Try.prog 3 #[.string a, .string b] w fun e w' => e = .returned (.bool true) ∧ Grown w w' := by
  have k := zzBytes5_any a b (by unfold maxLen; omega) (by unfold maxLen; omega) w
  have h' : ¬ (65536 : Int) < (a.size : Int) := by omega
  have h'' : ¬ (65536 : Int) < (b.size : Int) := by omega
  have hsz : (a ++ b).size = a.size + b.size := by simp
  have HS : Hid ((a ++ b).size ≤ 131072) := show _ ≤ _ by omega
  have HE : Hid (endsB (a ++ b).data.toList = endsB a.data.toList) := by show _ = _; rw [hlist]
  clear hsz hlist
  go_enter Try.func3, Try.ntmps3
  go_wp2_with fail
  refine k.mono ?_
  clear k
  rintro e w1 ⟨⟨v, rfl⟩, hw⟩
  obtain rfl := hw.symm
  clear hw
  cases v
  · go_wp2
    go_ret
    exact ⟨rfl, Grown.refl _⟩
  · go_wp2_with fail
    generalize a ++ b = s at *
    have h1 : s.size ≤ 131072 := HS.out
    have kp : Calls Try.prog 6 #[.string a] w fun e w' => e = .returned (.bool (!endsB s.data.toList)) ∧ w' = w := by
      rw [HE.out]
      exact zz_any a (by omega) w
    have k := zz_any s (by omega) w
    clear HS HE
    by_cases h0 : 0 < s.size
    · rw [endsB_of s h0] at k kp
      obtain ⟨x, hx⟩ : ∃ x, x = alnB ((s[0]'h0).toNat : Int) := ⟨_, rfl⟩
      obtain ⟨y, hy⟩ : ∃ y, y = alnB ((s[s.size - 1]'(by omega)).toNat : Int) := ⟨_, rfl⟩
      rw [← hx, ← hy] at k kp
      have HX : Hid _ := hx
      have HY : Hid _ := hy
      clear hx hy
      refine k.mono ?_
      clear k
      rintro e w1 ⟨rfl, hw⟩
      obtain rfl := hw.symm
      clear hw
      have kx := end_any ((s[0]'h0).toNat : Int) (by omega) (by have := (s[0]'h0).toNat_lt; omega) w
      have ky := end_any ((s[s.size - 1]'(by omega)).toNat : Int) (by omega) (by have := (s[s.size - 1]'(by omega)).toNat_lt; omega) w
      rw [← HX.out] at kx
      rw [← HY.out] at ky
      go_wp2_with fail
      refine kx.mono ?_
      clear kx HX
      rintro e w1 ⟨rfl, hw⟩
      obtain rfl := hw.symm
      clear hw
      cases x
      · go_wp2_with fail
        refine kp.mono ?_
        clear kp
        rintro e w1 ⟨rfl, hw⟩
        obtain rfl := hw.symm
        clear hw
        go_wp2
        go_ret
        exact ⟨rfl, Grown.refl _⟩
      · go_wp2_with fail
        refine ky.mono ?_
        clear ky HY
        rintro e w1 ⟨rfl, hw⟩
        obtain rfl := hw.symm
        clear hw
        go_wp2_with fail
        refine kp.mono ?_
        clear kp
        rintro e w1 ⟨rfl, hw⟩
        obtain rfl := hw.symm
        clear hw
        go_wp2
        go_ret
        exact ⟨rfl, Grown.refl _⟩
    · have hz : endsB s.data.toList = false := by
        have : s.data.toList = [] := List.eq_nil_of_length_eq_zero (show s.size = 0 by omega)
        rw [this]; rfl
      rw [hz] at k kp
      clear hz
      have hs0 : ¬ (0 : Int) < (s.size : Int) := by omega
      refine k.mono ?_
      clear k
      rintro e w1 ⟨rfl, hw⟩
      obtain rfl := hw.symm
      clear hw
      go_wp2_with fail
      refine kp.mono ?_
      clear kp
      rintro e w1 ⟨rfl, hw⟩
      obtain rfl := hw.symm
      clear hw
      go_wp2
      go_ret
      exact ⟨rfl, Grown.refl _⟩

theorem isE (a : ByteArray) : a.toList.isEmpty = decide (a.size = 0) := by
  rw [ByteArray.toList_eq]
  have h : a.data.toList.length = a.size := rfl
  cases hl : a.data.toList with
  | nil => rw [hl] at h; simp at h; rw [← h]; rfl
  | cons x r =>
    rw [hl] at h
    have : ¬ a.size = 0 := by rw [← h]; simp
    rw [decide_eq_false this]; rfl

/-- The law's walk, whatever the input. -/
theorem join_any (a b : ByteArray) (w0 : a.size ≤ maxLen) (w1 : b.size ≤ maxLen) (w : World) :
    Calls Try.prog 3 #[.string a, .string b] w fun e w' => e = .returned (.bool true) ∧ Grown w w' := by
  by_cases hbig : 65536 < a.size ∨ 65536 < b.size
  · exact join_big a b w0 w1 hbig w
  · have ha' : a.size ≤ 65536 := by omega
    have hb' : b.size ≤ 65536 := by omega
    by_cases ha : a.size = 0
    · have hn : a.data.toList = [] := List.eq_nil_of_length_eq_zero ha
      exact join_left a b ha' hb' (by rw [isE]; simp [ha]) (by rw [ab_list, hn, List.nil_append]) w
    · by_cases hb : b.size = 0
      · have hn : b.data.toList = [] := List.eq_nil_of_length_eq_zero hb
        exact join_right a b ha' hb' (by rw [isE]; simp [ha]) (by rw [isE]; simp [hb]) (by rw [ab_list, hn, List.append_nil]) w
      · exact join_both a b ha' hb' (by omega) (by omega) (by rw [isE]; simp [ha]) (by rw [isE]; simp [hb]) w

end Go.Proofs.Qxb6612921a
