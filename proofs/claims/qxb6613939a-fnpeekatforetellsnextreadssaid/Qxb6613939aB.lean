import Derived.Test.Qxb6613939aA
namespace Go.Proofs.Qxb6613939a
open Go.ChangeShapes Go.WideShapes Go.ChangeAt Go.RowKit

theorem bdrewN {B : Nat} {a w : World} (h : Below B a w) (n : Nat) : Below B a (w.drewN n) := ⟨h.os, h.tape, h.output, h.size, h.block⟩

/-! peekAt (12) -/
set_option maxHeartbeats 400000 in
theorem peekAt_err (P : Nat) (m : Int) (u : TypeId) (v : Value) (w : World) (hP : P < w.heap.size) (h5 : w.cell? ⟨P, 5, none⟩ = some (.iface u v)) :
    Calls Try.prog 12 #[.pointer (some ⟨P, 0, none⟩), .int .i64 m] w fun e w' => e = .returned (.agg #[.int .u8 7, .string ByteArray.empty]) ∧ Below w.heap.size w w' := by
  go_enter Try.func12, Try.ntmps12
  go_wp2
  go_quiet (fail)
  go_wp2
  exact bodyPost_ret (v := .agg #[.int .u8 7, .string ByteArray.empty]) (by simp [results, Try.results12, go_sem]; rfl) rfl ⟨rfl, (((bdrewN ((Below.refl _ _).alloc (Nat.le_refl _) _) _).setCell (Nat.le_refl _) _).setCell (Nat.le_refl _) _)⟩

set_option maxHeartbeats 400000 in
theorem peekAt_end (P : Nat) (m pos : Int) (ta : Option Addr) (n c : Nat) (w : World) (hP : P < w.heap.size) (h5 : w.cell? ⟨P, 5, none⟩ = some .nilIface)
    (h2 : w.cell? ⟨P, 2, none⟩ = some (.slice ta n c)) (h3 : w.cell? ⟨P, 3, none⟩ = some (.int .i64 pos)) (_b0 : 0 ≤ pos) (_b1 : 0 ≤ m) (b2 : pos + m ≤ 9223372036854775807) (hge : (n : Int) ≤ pos + m) :
    Calls Try.prog 12 #[.pointer (some ⟨P, 0, none⟩), .int .i64 m] w fun e w' => e = .returned (.agg #[.int .u8 7, .string ByteArray.empty]) ∧ Below w.heap.size w w' := by
  go_enter Try.func12, Try.ntmps12
  go_wp2
  go_quiet (fail)
  go_wp2
  exact bodyPost_ret (v := .agg #[.int .u8 7, .string ByteArray.empty]) (by simp [results, Try.results12, go_sem]; rfl) rfl ⟨rfl, (((bdrewN ((Below.refl _ _).alloc (Nat.le_refl _) _) _).setCell (Nat.le_refl _) _).setCell (Nat.le_refl _) _)⟩

set_option maxHeartbeats 800000 in
theorem peekAt_in (P T : Nat) (m pos : Nat) (n c : Nat) (k : Int) (t : ByteArray) (w : World) (hP : P < w.heap.size) (hT : T < w.heap.size) (h5 : w.cell? ⟨P, 5, none⟩ = some .nilIface)
    (h2 : w.cell? ⟨P, 2, none⟩ = some (.slice (some ⟨T, 0, none⟩) n c)) (h3 : w.cell? ⟨P, 3, none⟩ = some (.int .i64 pos)) (b2 : n ≤ 65536) (hlt : pos + m < n)
    (hk : w.cell? ⟨T, (pos + m) * 2, none⟩ = some (.int .u8 k)) (ht : w.cell? ⟨T, (pos + m) * 2 + 1, none⟩ = some (.string t)) :
    Calls Try.prog 12 #[.pointer (some ⟨P, 0, none⟩), .int .i64 m] w fun e w' => e = .returned (.agg #[.int .u8 k, .string t]) ∧ Below w.heap.size w w' := by
  have hlt' : (pos : Int) + (m : Int) < (n : Int) := by omega
  have h0 : (0 : Int) ≤ (pos : Int) + (m : Int) := by omega
  have hd : decide ((n : Int) ≤ (pos : Int) + (m : Int)) = false := decide_eq_false (by omega)
  go_enter Try.func12, Try.ntmps12
  go_wp2
  go_quiet (fail)
  go_wp2
  go_region
  go_wp2
  exact bodyPost_ret (v := .agg #[.int .u8 k, .string t]) (by simp [results, Try.results12, go_sem]) rfl ⟨rfl, (((bdrewN ((Below.refl _ _).alloc (Nat.le_refl _) _) _).setCell (Nat.le_refl _) _).setCell (Nat.le_refl _) _)⟩

/-- The token at place i of the line, or the end. -/
def tokK (zs : List Int) (f : Bool) (i : Nat) : Int := if f = true ∨ zs.length ≤ i then 7 else zs.getD i 0
def tokT (zs : List Int) (ts : List ByteArray) (f : Bool) (i : Nat) : ByteArray := if f = true ∨ zs.length ≤ i then ByteArray.empty else ts.getD i ByteArray.empty

/-- The parser at block P, its tokens at block T. -/
structure Par (w : World) (P T : Nat) (zs : List Int) (ts : List ByteArray) (pos : Nat) (f : Bool) : Prop where
  hP : P < w.heap.size
  hT : T < P
  c2 : w.cell? ⟨P, 2, none⟩ = some (.slice (some ⟨T, 0, none⟩) zs.length zs.length)
  c3 : w.cell? ⟨P, 3, none⟩ = some (.int .i64 pos)
  z3 : w.frozen? ⟨P, 3, none⟩ = false
  c5 : f = false → w.cell? ⟨P, 5, none⟩ = some .nilIface
  d5 : f = true → ∃ u v, w.cell? ⟨P, 5, none⟩ = some (.iface u v)
  tk : ∀ i, i < zs.length → w.cell? ⟨T, i * 2, none⟩ = some (.int .u8 (zs.getD i 0))
  tt : ∀ i, i < zs.length → w.cell? ⟨T, i * 2 + 1, none⟩ = some (.string (ts.getD i ByteArray.empty))

theorem Par.below {w w' : World} {P T : Nat} {zs : List Int} {ts : List ByteArray} {pos : Nat} {f : Bool} {B : Nat} (h : Par w P T zs ts pos f) (hb : Below B w w') (hB : P < B) : Par w' P T zs ts pos f := by
  have hc : ∀ b o, b < B → w'.cell? ⟨b, o, none⟩ = w.cell? ⟨b, o, none⟩ := fun b o h => hb.cell (p := ⟨b, o, none⟩) h
  have hf : ∀ b o, b < B → w'.frozen? ⟨b, o, none⟩ = w.frozen? ⟨b, o, none⟩ := fun b o h => hb.frozen (p := ⟨b, o, none⟩) h
  have hTB : T < B := Nat.lt_trans h.hT hB
  refine ⟨Nat.lt_of_lt_of_le h.hP hb.size, h.hT, by rw [hc _ _ hB]; exact h.c2, by rw [hc _ _ hB]; exact h.c3, by rw [hf _ _ hB]; exact h.z3, fun e => by rw [hc _ _ hB]; exact h.c5 e, fun e => ?_, fun i hi => by rw [hc _ _ hTB]; exact h.tk i hi, fun i hi => by rw [hc _ _ hTB]; exact h.tt i hi⟩
  obtain ⟨u, v, e'⟩ := h.d5 e
  exact ⟨u, v, by rw [hc _ _ hB]; exact e'⟩

theorem peekAt_any {w : World} {P T : Nat} {zs : List Int} {ts : List ByteArray} {pos : Nat} {f : Bool} (h : Par w P T zs ts pos f) (m : Nat) (hn : zs.length ≤ 65536) (hb : pos + m ≤ 9223372036854775807) :
    Calls Try.prog 12 #[.pointer (some ⟨P, 0, none⟩), .int .i64 m] w fun e w' => e = .returned (.agg #[.int .u8 (tokK zs f (pos + m)), .string (tokT zs ts f (pos + m))]) ∧ Below w.heap.size w w' := by
  cases f with
  | true =>
    obtain ⟨u, v, h5⟩ := h.d5 rfl
    have e1 : tokK zs true (pos + m) = 7 := by simp [tokK]
    have e2 : tokT zs ts true (pos + m) = ByteArray.empty := by simp [tokT]
    rw [e1, e2]
    exact peekAt_err P m u v w h.hP h5
  | false =>
    by_cases hlt : pos + m < zs.length
    · have e1 : tokK zs false (pos + m) = zs.getD (pos + m) 0 := by unfold tokK; rw [if_neg (by simp; omega)]
      have e2 : tokT zs ts false (pos + m) = ts.getD (pos + m) ByteArray.empty := by unfold tokT; rw [if_neg (by simp; omega)]
      rw [e1, e2]
      exact peekAt_in P T m pos zs.length zs.length _ _ w h.hP (Nat.lt_trans h.hT h.hP) (h.c5 rfl) h.c2 h.c3 hn hlt (h.tk _ hlt) (h.tt _ hlt)
    · have e1 : tokK zs false (pos + m) = 7 := by unfold tokK; rw [if_pos (by simp; omega)]
      have e2 : tokT zs ts false (pos + m) = ByteArray.empty := by unfold tokT; rw [if_pos (by simp; omega)]
      rw [e1, e2]
      exact peekAt_end P m pos _ zs.length zs.length w h.hP (h.c5 rfl) h.c2 h.c3 (by omega) (by omega) (by omega) (by omega)

theorem peekAt_zero {w : World} {P T : Nat} {zs : List Int} {ts : List ByteArray} {pos : Nat} {f : Bool} (h : Par w P T zs ts pos f) (hn : zs.length ≤ 65536) (hb : pos ≤ 65536) :
    Calls Try.prog 12 #[.pointer (some ⟨P, 0, none⟩), .int .i64 0] w fun e w' => e = .returned (.agg #[.int .u8 (tokK zs f pos), .string (tokT zs ts f pos)]) ∧ Below w.heap.size w w' := by
  have := peekAt_any h 0 hn (by omega)
  simpa using this

end Go.Proofs.Qxb6613939a
