import Derived.Test.Qxb6613939aG
namespace Go.Proofs.Qxb6613939a
open Go.ChangeShapes Go.WideShapes Go.ChangeAt Go.RowKit

theorem mkB_zero : mkB 0 = #[] := by simp [mkB, madeCells]
theorem mkS_zero : mkS 0 = #[] := by simp [mkS, madeCells]

theorem run_copyB (ad : Addr) (n c0 : Nat) (zs : List Int) (w : World) (hl : zs.length = n) (hK : KS w (some ad) n zs) :
    (Builtin.copy_ #[22, 22] 3 #[.slice (some ⟨w.heap.size, 0, none⟩) n n, .slice (some ad) n c0]).run Try.prog (w.alloc (.cells (mkB n) 5)) = .ok (.int .i64 (n : Int)) (w.alloc (.cells (kArr zs) 5)) := by
  have hE : (Try.prog.info? 5).map (·.size) = some 1 := by kernel_rfl
  rcases hK with rfl | ⟨K, ko, e, hKs, hK⟩
  · obtain rfl : zs = [] := List.eq_nil_of_length_eq_zero hl
    have := run_copy_none (P := Try.prog) (w.alloc (.cells (mkB 0) 5)) 22 22 3 5 (some ⟨w.heap.size, 0, none⟩) (some ad) 0 0 0 c0 Try.underlying22 hE (by simp)
    rw [this, mkB_zero]
    simp [kArr, goInt]
  · obtain rfl : ad = ⟨K, ko, none⟩ := by simpa using e
    refine run_copyAny 22 5 n c0 K ko (zs.map (Value.int .u8)) (mkB n) w Try.underlying22 hE (by simpa using hl) (size_madeCells _ _) (by simp [Value.oneCell']) hKs (fun j v hj => ?_)
    have hj' := (List.getElem?_eq_some_iff.1 hj).1
    simp at hj'
    rw [hK j (by omega)]
    simp [hj'] at hj
    simp [hj, hj']

theorem run_copyS (ad : Addr) (n c0 : Nat) (ts : List ByteArray) (w : World) (hl : ts.length = n) (hK : TS w (some ad) n ts) :
    (Builtin.copy_ #[23, 23] 3 #[.slice (some ⟨w.heap.size, 0, none⟩) n n, .slice (some ad) n c0]).run Try.prog (w.alloc (.cells (mkS n) 9)) = .ok (.int .i64 (n : Int)) (w.alloc (.cells (tArr ts) 9)) := by
  have hE : (Try.prog.info? 9).map (·.size) = some 1 := by kernel_rfl
  rcases hK with rfl | ⟨K, ko, e, hKs, hK⟩
  · obtain rfl : ts = [] := List.eq_nil_of_length_eq_zero hl
    have := run_copy_none (P := Try.prog) (w.alloc (.cells (mkS 0) 9)) 23 23 3 9 (some ⟨w.heap.size, 0, none⟩) (some ad) 0 0 0 c0 Try.underlying23 hE (by simp)
    rw [this, mkS_zero]
    simp [tArr, goInt]
  · obtain rfl : ad = ⟨K, ko, none⟩ := by simpa using e
    refine run_copyAny 23 9 n c0 K ko (ts.map Value.string) (mkS n) w Try.underlying23 hE (by simpa using hl) (size_madeCells _ _) (by simp [Value.oneCell']) hKs (fun j v hj => ?_)
    have hj' := (List.getElem?_eq_some_iff.1 hj).1
    simp at hj'
    rw [hK j (by omega)]
    simp [hj'] at hj
    simp [hj, hj']

theorem KS.below {w w' : World} {a : Option Addr} {n : Nat} {zs : List Int} {B : Nat} (h : KS w a n zs) (hb : Below B w w') (hB : w.heap.size ≤ B) : KS w' a n zs := by
  rcases h with h | ⟨K, ko, e, hK, h⟩
  · exact .inl h
  · exact .inr ⟨K, ko, e, Nat.lt_of_lt_of_le hK hb.size, fun i hi => (hb.cell (p := ⟨K, ko + i, none⟩) (Nat.lt_of_lt_of_le hK hB)).trans (h i hi)⟩
theorem TS.below {w w' : World} {a : Option Addr} {n : Nat} {ts : List ByteArray} {B : Nat} (h : TS w a n ts) (hb : Below B w w') (hB : w.heap.size ≤ B) : TS w' a n ts := by
  rcases h with h | ⟨K, ko, e, hK, h⟩
  · exact .inl h
  · exact .inr ⟨K, ko, e, Nat.lt_of_lt_of_le hK hb.size, fun i hi => (hb.cell (p := ⟨K, ko + i, none⟩) (Nat.lt_of_lt_of_le hK hB)).trans (h i hi)⟩

theorem kCell (w : World) (zs : List Int) (i : Nat) (h : i < zs.length) : (w.alloc (.cells (kArr zs) 5)).cell? ⟨w.heap.size, i, none⟩ = some (.int .u8 (zs.getD i 0)) := by
  simp [kArr, h]
theorem tCell (w : World) (ts : List ByteArray) (i : Nat) (h : i < ts.length) : (w.alloc (.cells (tArr ts) 9)).cell? ⟨w.heap.size, i, none⟩ = some (.string (ts.getD i ByteArray.empty)) := by
  simp [tArr, h]

/-- tokenAt, whatever the place. -/
theorem tokenAt_any (K X n cn m cm : Nat) (zs : List Int) (ts : List ByteArray) (f : Bool) (i : Nat) (w : World) (hl : zs.length = n) (hm : m = n)
    (hK : ∀ i, i < n → w.cell? ⟨K, i, none⟩ = some (.int .u8 (zs.getD i 0))) (hX : ∀ i, i < n → w.cell? ⟨X, i, none⟩ = some (.string (ts.getD i ByteArray.empty))) :
    Calls Try.prog 8 #[.slice (some ⟨K, 0, none⟩) n cn, .slice (some ⟨X, 0, none⟩) m cm, .bool f, .int .i64 i] w
      fun e w' => e = .returned (.tuple #[.int .u8 (tokK zs f i), .string (tokT zs ts f i)]) ∧ Below w.heap.size w w' := by
  subst hl; subst hm
  by_cases h : f = true ∨ zs.length ≤ i
  · have e1 : tokK zs f i = 7 := by unfold tokK; rw [if_pos h]
    have e2 : tokT zs ts f i = ByteArray.empty := by unfold tokT; rw [if_pos h]
    rw [e1, e2]
    have h' : f = true ∨ (zs.length : Int) ≤ (i : Int) := by
      rcases h with h | h
      · exact .inl h
      · exact .inr (by omega)
    refine (tokenAt_end _ _ _ cn _ cm f i w h').mono ?_
    rintro e w' ⟨rfl, rfl⟩
    exact ⟨rfl, Below.refl _ _⟩
  · have e1 : tokK zs f i = zs.getD i 0 := by unfold tokK; rw [if_neg h]
    have e2 : tokT zs ts f i = ts.getD i ByteArray.empty := by unfold tokT; rw [if_neg h]
    rw [e1, e2]
    obtain rfl : f = false := by cases f <;> simp_all
    refine (tokenAt_in K 0 X 0 _ cn _ cm i _ _ w (by omega) (by omega) (by simpa using hK i (by omega)) (by simpa using hX i (by omega))).mono ?_
    rintro e w' ⟨rfl, q, rfl⟩
    exact ⟨rfl, bdrewN (Below.refl _ _) q⟩

end Go.Proofs.Qxb6613939a
