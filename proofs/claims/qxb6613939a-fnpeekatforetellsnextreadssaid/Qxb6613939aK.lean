import Derived.Test.Qxb6613939aH
namespace Go.Proofs.Qxb6613939a
open Go.ChangeShapes Go.WideShapes Go.ChangeAt Go.RowKit

/-- From place a on there is the end alone. -/
def EndAt (zs : List Int) (ts : List ByteArray) (f : Bool) (a : Nat) : Prop := ∀ j, a ≤ j → tokK zs f j = 7 ∧ tokT zs ts f j = ByteArray.empty

theorem tok_past {zs : List Int} {ts : List ByteArray} {f : Bool} {j : Nat} (h : zs.length ≤ j) : tokK zs f j = 7 ∧ tokT zs ts f j = ByteArray.empty := by
  unfold tokK tokT
  rw [if_pos (.inr h), if_pos (.inr h)]
  exact ⟨rfl, rfl⟩

theorem endAt_of {zs : List Int} {ts : List ByteArray} {f : Bool} {n m : Nat} (R : Reach zs ts n m) (hl : zs.length = n) {a : Nat} (h7 : tokK zs f a = 7) : EndAt zs ts f a := by
  intro j hj
  by_cases hp : zs.length ≤ j
  · exact tok_past hp
  cases f with
  | true => simp [tokK, tokT]
  | false =>
    have ha : a < zs.length := by omega
    have e : zs.getD a 0 = 7 := by
      unfold tokK at h7
      rwa [if_neg (by simp; omega)] at h7
    have hlast : a = n - 1 := by
      by_cases hlt : a < n - 1
      · have := R.before a hlt
        omega
      · omega
    have hjl : j = n - 1 := by omega
    subst hjl
    unfold tokK tokT
    rw [if_neg (by simp; omega), if_neg (by simp; omega)]
    exact ⟨R.last, R.text⟩

/-- Where the parser stands behind j reads that began at p. -/
structure At (zs : List Int) (ts : List ByteArray) (f : Bool) (p j a : Nat) : Prop where
  le : a ≤ zs.length
  off : a = p + j ∨ (a ≤ p + j ∧ EndAt zs ts f a)

theorem At.same {zs : List Int} {ts : List ByteArray} {f : Bool} {p j a : Nat} (h : At zs ts f p j a) : tokK zs f a = tokK zs f (p + j) ∧ tokT zs ts f a = tokT zs ts f (p + j) := by
  rcases h.off with e | ⟨hle, he⟩
  · rw [e]; exact ⟨rfl, rfl⟩
  · have h1 := he a (Nat.le_refl _)
    have h2 := he (p + j) hle
    exact ⟨h1.1.trans h2.1.symm, h1.2.trans h2.2.symm⟩

theorem At.next {zs : List Int} {ts : List ByteArray} {f : Bool} {p j a n m : Nat} (R : Reach zs ts n m) (hl : zs.length = n) (h : At zs ts f p j a) : At zs ts f p (j + 1) (adv zs f a) := by
  unfold adv
  by_cases h7 : tokK zs f a = 7
  · rw [if_pos h7]
    refine ⟨h.le, .inr ⟨?_, endAt_of R hl h7⟩⟩
    rcases h.off with e | ⟨hle, _⟩ <;> omega
  · rw [if_neg h7]
    have hlt : a < zs.length := by
      by_cases hp : zs.length ≤ a
      · exact absurd (tok_past (ts := ts) (f := f) hp).1 h7
      · omega
    refine ⟨hlt, .inl ?_⟩
    rcases h.off with e | ⟨_, he⟩
    · omega
    · exact absurd (he a (Nat.le_refl _)).1 h7

/-- Behind the reads the head is what was foretold. -/
theorem At.fore {zs : List Int} {ts : List ByteArray} {f : Bool} {p j a r : Nat} (h : At zs ts f p j a) (hj : j = r ∨ (j ≤ r ∧ j = zs.length)) : tokK zs f a = tokK zs f (p + r) ∧ tokT zs ts f a = tokT zs ts f (p + r) := by
  have hs := h.same
  rcases hj with rfl | ⟨h1, h2⟩
  · exact hs
  · have e1 := tok_past (zs := zs) (ts := ts) (f := f) (j := p + j) (by omega)
    have e2 := tok_past (zs := zs) (ts := ts) (f := f) (j := p + r) (by omega)
    exact ⟨hs.1.trans (e1.1.trans e2.1.symm), hs.2.trans (e1.2.trans e2.2.symm)⟩

end Go.Proofs.Qxb6613939a
