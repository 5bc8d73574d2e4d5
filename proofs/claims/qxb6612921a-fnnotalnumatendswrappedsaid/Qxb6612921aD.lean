import Derived.Test.Qxb6612921aC
import Derived.OpenShut
namespace Go.Proofs.Qxb6612921a
open Go.ChangeShapes Go.WideShapes Go.ChangeAt Go.RowKit

/-- The string of one byte. -/
def oneB (c : Int) : ByteArray := ⟨#[UInt8.ofNat c.toNat]⟩
theorem size_oneB (c : Int) : (oneB c).size = 1 := rfl
theorem list_oneB (c : Int) : (oneB c).data.toList = [UInt8.ofNat c.toNat] := rfl
theorem byte_oneB (c : Int) (h0 : 0 ≤ c) (h1 : c ≤ 255) : ((UInt8.ofNat c.toNat).toNat : Int) = c := by
  rw [UInt8.toNat_ofNat']
  omega

theorem run_one (c : Int) (w : World) : (convert 26 9 (.slice (some ⟨w.heap.size, 0, none⟩) 1 1)).run Try.prog (w.alloc (.cells #[.int .u8 c] 5)) = .ok (.string (oneB c)) (w.alloc (.cells #[.int .u8 c] 5)) := by
  rw [run_convert_bytes_string _ 26 9 5 _ _ _ Try.underlying26 Try.underlying5 Try.underlying9]
  have hl := run_loadCells_list (P := Try.prog) (w.alloc (.cells #[.int .u8 c] 5)) ⟨w.heap.size, 0, none⟩ [.int .u8 c] (fun j v hj => by
    match j, hj with
    | 0, hj => simp at hj; subst hj; simp [Addr.add])
  have := run_bytesToString (P := Try.prog) (w.alloc (.cells #[.int .u8 c] 5)) ⟨w.heap.size, 0, none⟩ 1 1 [c] (by simpa using hl)
  rw [this]
  rfl

theorem endsB_one (c : Int) (h0 : 0 ≤ c) (h1 : c ≤ 255) : endsB (oneB c).data.toList = alnB c := by
  rw [list_oneB]
  show (alnB ((UInt8.ofNat c.toNat).toNat : Int) && alnB ((UInt8.ofNat c.toNat).toNat : Int)) = alnB c
  rw [byte_oneB c h0 h1, Bool.and_self]

theorem endsB_wrapped (c : Int) (s : ByteArray) (h0 : 0 ≤ c) (h1 : c ≤ 255) : endsB (oneB c ++ s ++ oneB c).data.toList = alnB c := by
  rw [ab_list, ab_list, list_oneB]
  have e1 : ([UInt8.ofNat c.toNat] ++ s.data.toList ++ [UInt8.ofNat c.toNat]).head? = some (UInt8.ofNat c.toNat) := by simp
  have e2 : ([UInt8.ofNat c.toNat] ++ s.data.toList ++ [UInt8.ofNat c.toNat]).getLast? = some (UInt8.ofNat c.toNat) := List.getLast?_concat
  unfold endsB
  rw [e1, e2]
  show (alnB ((UInt8.ofNat c.toNat).toNat : Int) && alnB ((UInt8.ofNat c.toNat).toNat : Int)) = alnB c
  rw [byte_oneB c h0 h1, Bool.and_self]

set_option maxHeartbeats 800000 in
theorem wrapped_in (c : Int) (s : ByteArray) (h0 : 0 ≤ c) (h1 : c ≤ 255) (w1 : s.size ≤ 65536) (w : World) :
    Calls Try.prog 4 #[.int .u8 c, .string s] w fun e w' => e = .returned (.bool true) ∧ Grown w w' := by
  have k := zzBytes8_any c s (by unfold maxLen; omega) w
  have h' : ¬ (65536 : Int) < (s.size : Int) := by omega
  have hrun := run_one c w
  have kc := fun W => zz_any (oneB c) (by rw [size_oneB]; omega) W
  have kw := fun W => zz_any (oneB c ++ s ++ oneB c) (by simp [size_oneB]; omega) W
  have kd := fun W => end_any c h0 h1 W
  simp only [endsB_one c h0 h1] at kc
  simp only [endsB_wrapped c s h0 h1] at kw
  have hsz := size_oneB c
  obtain ⟨v, hv⟩ : ∃ v, v = alnB c := ⟨_, rfl⟩
  simp only [← hv] at kc kw kd
  clear hv
  go_enter Try.func4, Try.ntmps4
  go_wp2_with fail
  refine k.mono ?_
  clear k
  rintro e w1 ⟨⟨b, rfl⟩, hw⟩
  obtain rfl := hw.symm
  clear hw
  cases b
  · go_wp2
    go_ret
    exact ⟨rfl, Grown.refl _⟩
  · go_wp2_with fail
    refine (kw _).mono ?_
    clear kw
    rintro e w1 ⟨rfl, hw⟩
    obtain rfl := hw.symm
    clear hw
    go_wp2_with fail
    refine (kc _).mono ?_
    clear kc
    rintro e w1 ⟨rfl, hw⟩
    obtain rfl := hw.symm
    clear hw
    go_wp2_with fail
    refine (kd _).mono ?_
    clear kd
    rintro e w1 ⟨rfl, hw⟩
    obtain rfl := hw.symm
    clear hw
    go_wp2
    go_ret
    exact ⟨rfl, (Grown.refl _).alloc _ _⟩

set_option maxHeartbeats 400000 in
theorem wrapped_big (c : Int) (s : ByteArray) (w1 : s.size ≤ maxLen) (hbig : 65536 < s.size) (w : World) :
    Calls Try.prog 4 #[.int .u8 c, .string s] w fun e w' => e = .returned (.bool true) ∧ Grown w w' := by
  have k := zzBytes8_any c s w1 w
  unfold maxLen at w1
  have h' : (65536 : Int) < (s.size : Int) := by omega
  go_enter Try.func4, Try.ntmps4
  go_wp2_with fail
  refine k.mono ?_
  clear k
  rintro e w1 ⟨⟨b, rfl⟩, hw⟩
  obtain rfl := hw.symm
  clear hw
  cases b
  · go_wp2
    go_ret
    exact ⟨rfl, Grown.refl _⟩
  · go_wp2
    go_ret
    exact ⟨rfl, Grown.refl _⟩

/-- The law's walk, whatever the input. -/
theorem wrapped_any (c : Int) (s : ByteArray) (w0 : (Lit.int .u8 c).wf = true) (w1 : s.size ≤ maxLen) (w : World) :
    Calls Try.prog 4 #[.int .u8 c, .string s] w fun e w' => e = .returned (.bool true) ∧ Grown w w' := by
  by_cases hbig : 65536 < s.size
  · exact wrapped_big c s w1 hbig w
  · have hb := bounds_u8 w0
    exact wrapped_in c s (by omega) (by omega) (by omega) w

end Go.Proofs.Qxb6612921a
