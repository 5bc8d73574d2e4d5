import Derived.Test.Qxb6613939aB
namespace Go.Proofs.Qxb6613939a
open Go.ChangeShapes Go.WideShapes Go.ChangeAt Go.RowKit

/-! ZZpeekAt (9) -/
set_option maxHeartbeats 400000 in
theorem zzPeekAt_any {w : World} {P T : Nat} {zs : List Int} {ts : List ByteArray} {pos : Nat} {f : Bool} (h : Par w P T zs ts pos f) (m : Nat) (hn : zs.length ≤ 65536) (hb : pos + m ≤ 9223372036854775807) :
    Calls Try.prog 9 #[.pointer (some ⟨P, 0, none⟩), .int .i64 m] w fun e w' => e = .returned (.tuple #[.int .u8 (tokK zs f (pos + m)), .string (tokT zs ts f (pos + m))]) ∧ Below w.heap.size w w' := by
  have c := peekAt_any h m hn hb
  obtain ⟨k, hk⟩ : ∃ k, k = tokK zs f (pos + m) := ⟨_, rfl⟩
  obtain ⟨t, ht⟩ : ∃ t, t = tokT zs ts f (pos + m) := ⟨_, rfl⟩
  rw [← hk, ← ht] at c ⊢
  clear hk ht
  go_enter Try.func9, Try.ntmps9
  go_wp2_with (go_at_call 12; refine c.mono ?_; rintro e w1 ⟨rfl, hb1⟩)
  have hsz := hb1.size
  go_wp2
  go_quiet (fail)
  go_wp2
  go_ret2
  exact ⟨rfl, bdrewN ((hb1.alloc hsz _)) _⟩

/-! peek (14) -/
set_option maxHeartbeats 400000 in
theorem peek_any {w : World} {P T : Nat} {zs : List Int} {ts : List ByteArray} {pos : Nat} {f : Bool} (h : Par w P T zs ts pos f) (hn : zs.length ≤ 65536) (hb : pos ≤ 65536) :
    Calls Try.prog 14 #[.pointer (some ⟨P, 0, none⟩)] w fun e w' => e = .returned (.agg #[.int .u8 (tokK zs f pos), .string (tokT zs ts f pos)]) ∧ Below w.heap.size w w' := by
  have c := fun o => peekAt_zero (h.below ((Below.refl _ w).alloc (Nat.le_refl _) o) h.hP) hn hb
  obtain ⟨k, hk⟩ : ∃ k, k = tokK zs f pos := ⟨_, rfl⟩
  obtain ⟨t, ht⟩ : ∃ t, t = tokT zs ts f pos := ⟨_, rfl⟩
  rw [← hk, ← ht] at c ⊢
  clear hk ht
  go_enter Try.func14, Try.ntmps14
  go_wp2_with fail
  refine (c _).mono ?_
  rintro e w1 ⟨rfl, hb1⟩
  clear c
  obtain ⟨hc, hf⟩ := bcell hb1
  have hz : w.heap.size + 1 ≤ w1.heap.size := by have := hb1.size; simpa using this
  go_wp2
  exact bodyPost_ret (v := .agg #[.int .u8 k, .string t]) (by simp [results, Try.results14, go_sem, hc]) rfl ⟨rfl, ((((Below.refl _ _).alloc (Nat.le_refl _) _).trans (hb1.mono (by simp))).setCell (Nat.le_refl _) _).setCell (Nat.le_refl _) _⟩

/-! next (13) -/
set_option maxHeartbeats 400000 in
theorem next_end {w : World} {P T : Nat} {zs : List Int} {ts : List ByteArray} {pos : Nat} {f : Bool} (h : Par w P T zs ts pos f) (hn : zs.length ≤ 65536) (hb : pos ≤ 65536) (h7 : tokK zs f pos = 7) :
    Calls Try.prog 13 #[.pointer (some ⟨P, 0, none⟩)] w fun e w' => e = .returned (.agg #[.int .u8 (tokK zs f pos), .string (tokT zs ts f pos)]) ∧ Below w.heap.size w w' := by
  have c := fun o => peek_any (h.below ((Below.refl _ w).alloc (Nat.le_refl _) o) h.hP) hn hb
  rw [h7] at c ⊢
  obtain ⟨t, ht⟩ : ∃ t, t = tokT zs ts f pos := ⟨_, rfl⟩
  rw [← ht] at c ⊢
  clear ht h7
  go_enter Try.func13, Try.ntmps13
  go_wp2_with fail
  refine (c _).mono ?_
  rintro e w1 ⟨rfl, hb1⟩
  clear c
  obtain ⟨hc, hf⟩ := bcell hb1
  have hz : w.heap.size + 1 ≤ w1.heap.size := by have := hb1.size; simpa using this
  have hz2 : w.heap.size < w1.heap.size := by omega
  go_wp2
  exact bodyPost_ret (v := .agg #[.int .u8 7, .string t]) (by simp [results, Try.results13, go_sem, hc, hz2]) rfl ⟨rfl, (((((Below.refl _ _).alloc (Nat.le_refl _) _).trans (hb1.mono (by simp))).setCell (Nat.le_refl _) _).setCell (Nat.le_refl _) _).alloc (by simp [World.setCell]; omega) _⟩

theorem Par.step {w : World} {P T : Nat} {zs : List Int} {ts : List ByteArray} {pos : Nat} {f : Bool} (h : Par w P T zs ts pos f) : Par (w.setCell ⟨P, 3, none⟩ (.int .i64 ((pos : Int) + 1))) P T zs ts (pos + 1) f := by
  have ho : ∀ b o, (b ≠ P ∨ o ≠ 3) → (w.setCell ⟨P, 3, none⟩ (.int .i64 ((pos : Int) + 1))).cell? ⟨b, o, none⟩ = w.cell? ⟨b, o, none⟩ := by
    intro b o hbo
    apply World.cell?_setCell_other
    intro e
    simp at e
    omega
  have hT := h.hT
  refine ⟨by simpa [World.setCell] using h.hP, h.hT, by rw [ho _ _ (.inr (by decide))]; exact h.c2, ?_, by rw [World.frozen?_setCell]; exact h.z3, fun e => by rw [ho _ _ (.inr (by decide))]; exact h.c5 e, fun e => ?_, fun i hi => by rw [ho _ _ (.inl (by omega))]; exact h.tk i hi, fun i hi => by rw [ho _ _ (.inl (by omega))]; exact h.tt i hi⟩
  · rw [World.cell?_setCell_same (h := h.c3)]; simp
  · obtain ⟨u, v, e'⟩ := h.d5 e
    exact ⟨u, v, by rw [ho _ _ (.inr (by decide))]; exact e'⟩

set_option maxHeartbeats 400000 in
theorem next_go {w : World} {P T : Nat} {zs : List Int} {ts : List ByteArray} {pos : Nat} {f : Bool} (h : Par w P T zs ts pos f) (hn : zs.length ≤ 65536) (hb : pos ≤ 65536) (h7 : tokK zs f pos ≠ 7) :
    Calls Try.prog 13 #[.pointer (some ⟨P, 0, none⟩)] w fun e w' => e = .returned (.agg #[.int .u8 (tokK zs f pos), .string (tokT zs ts f pos)]) ∧ Par w' P T zs ts (pos + 1) f ∧ Below P w w' := by
  have c := fun o => peek_any (h.below ((Below.refl _ w).alloc (Nat.le_refl _) o) h.hP) hn hb
  obtain ⟨k, hk⟩ : ∃ k, k = tokK zs f pos := ⟨_, rfl⟩
  obtain ⟨t, ht⟩ : ∃ t, t = tokT zs ts f pos := ⟨_, rfl⟩
  rw [← hk, ← ht] at c ⊢
  rw [← hk] at h7
  have hne : (k == 7) = false := by simpa using h7
  have hP := h.hP
  have c3 := h.c3
  have z3 := h.z3
  clear hk ht h7
  go_enter Try.func13, Try.ntmps13
  go_wp2_with fail
  refine (c _).mono ?_
  rintro e w1 ⟨rfl, hb1⟩
  clear c
  obtain ⟨hc, hf⟩ := bcell hb1
  have hz : w.heap.size + 1 ≤ w1.heap.size := by have := hb1.size; simpa using this
  have hz2 : w.heap.size < w1.heap.size := by omega
  have hz3 : P < w1.heap.size := by omega
  go_wp2
  have hp1 : Par w1 P T zs ts pos f := h.below (((Below.refl _ _).alloc (Nat.le_refl _) _).trans (hb1.mono (by simp))) hP
  have hp2 := hp1.step
  have hw1 : Below w.heap.size w w1 := ((Below.refl _ _).alloc (Nat.le_refl _) _).trans (hb1.mono (by simp))
  refine bodyPost_ret (v := .agg #[.int .u8 k, .string t]) (by simp [results, Try.results13, go_sem, hc, hz2]) rfl ⟨rfl, hp2.below (B := w.heap.size) ?_ hP, ?_⟩
  · refine Below.alloc (Below.setCell (Below.setCell (Below.refl _ _) ?_ _) ?_ _) ?_ _
    · exact Nat.le_refl _
    · exact Nat.le_refl _
    · simp [World.setCell]; omega
  exact ((((hw1.mono (Nat.le_of_lt hP)).setCell (Nat.le_refl _) _).setCell (Nat.le_of_lt hP) _).setCell (Nat.le_of_lt hP) _).alloc (by simp [World.setCell]; omega) _

/-- Where the parser stands behind a 'next'. -/
def adv (zs : List Int) (f : Bool) (pos : Nat) : Nat := if tokK zs f pos = 7 then pos else pos + 1

theorem next_any {w : World} {P T : Nat} {zs : List Int} {ts : List ByteArray} {pos : Nat} {f : Bool} (h : Par w P T zs ts pos f) (hn : zs.length ≤ 65536) (hb : pos ≤ 65536) :
    Calls Try.prog 13 #[.pointer (some ⟨P, 0, none⟩)] w fun e w' => e = .returned (.agg #[.int .u8 (tokK zs f pos), .string (tokT zs ts f pos)]) ∧ Par w' P T zs ts (adv zs f pos) f ∧ Below P w w' := by
  by_cases h7 : tokK zs f pos = 7
  · refine (next_end h hn hb h7).mono ?_
    rintro e w1 ⟨rfl, hb1⟩
    refine ⟨rfl, ?_, hb1.mono (Nat.le_of_lt h.hP)⟩
    unfold adv
    rw [if_pos h7]
    exact h.below hb1 h.hP
  · unfold adv
    rw [if_neg h7]
    exact next_go h hn hb h7

/-! ZZnext (10) -/
set_option maxHeartbeats 400000 in
theorem zzNext_any {w : World} {P T : Nat} {zs : List Int} {ts : List ByteArray} {pos : Nat} {f : Bool} (h : Par w P T zs ts pos f) (hn : zs.length ≤ 65536) (hb : pos ≤ 65536) :
    Calls Try.prog 10 #[.pointer (some ⟨P, 0, none⟩)] w fun e w' => e = .returned (.tuple #[.int .u8 (tokK zs f pos), .string (tokT zs ts f pos)]) ∧ Par w' P T zs ts (adv zs f pos) f ∧ Below P w w' := by
  have c := next_any h hn hb
  obtain ⟨k, hk⟩ : ∃ k, k = tokK zs f pos := ⟨_, rfl⟩
  obtain ⟨t, ht⟩ : ∃ t, t = tokT zs ts f pos := ⟨_, rfl⟩
  rw [← hk, ← ht] at c ⊢
  clear hk ht
  go_enter Try.func10, Try.ntmps10
  go_wp2_with fail
  refine c.mono ?_
  rintro e w1 ⟨rfl, hp1, hb1⟩
  clear c
  go_wp2
  go_quiet (fail)
  go_wp2
  go_ret2
  have hsz : P ≤ w1.heap.size := Nat.le_of_lt hp1.hP
  exact ⟨rfl, hp1.below (bdrewN ((Below.refl _ _).alloc (Nat.le_refl _) _) _) hp1.hP, bdrewN (hb1.alloc hsz _) _⟩

end Go.Proofs.Qxb6613939a
