import Derived.Test.Qxb6613939aE
namespace Go.Proofs.Qxb6613939a
open Go.ChangeShapes Go.WideShapes Go.ChangeAt Go.RowKit

def mkToks (n : Nat) : Array Value := madeCells #[.int .u8 0, .string ByteArray.empty] (n * 2)
theorem size_mkToks (n : Nat) : (mkToks n).size = n * 2 := size_madeCells _ _

theorem Try.info35 : (Try.prog.info? 35).map (fun i => (i.zero, i.size, i.bytes)) = some (some (.agg #[.int .u8 0, .string ByteArray.empty]), 2, 24) := by kernel_rfl

theorem run_mkToks (n : Nat) (hn : n ≤ 65536) (w : World) :
    (Instr.makeSlice 32 (.int .i64 (n : Int)) (.int .i64 (n : Int))).run Try.prog w = .ok (.slice (some ⟨w.heap.size, 0, none⟩) n n) (w.alloc (.cells (mkToks n) 35)) := by
  obtain ⟨i, hi, hzz⟩ := Option.map_eq_some_iff.1 Try.info35
  simp only [Prod.mk.injEq] at hzz
  obtain ⟨hz, hs, hb⟩ := hzz
  have := run_make (P := Try.prog) w 32 35 i _ Try.underlying32 hi hz .i64 .i64 (n : Int) (n : Int) (by omega) (by omega) (by rw [hb]; omega) (by omega)
  rw [hs] at this
  simpa [mkToks, Value.cells] using this

/-- The tokens' row, k of n filled. -/
structure TokInv (w wr : World) (n k : Nat) (zs : List Int) (ts : List ByteArray) : Prop where
  below : Below w.heap.size w wr
  sz : w.heap.size < wr.heap.size
  old : ∀ o, o < n * 2 → ∃ v, wr.cell? ⟨w.heap.size, o, none⟩ = some v
  fz : ∀ o, wr.frozen? ⟨w.heap.size, o, none⟩ = false
  tk : ∀ i, i < k → wr.cell? ⟨w.heap.size, i * 2, none⟩ = some (.int .u8 (zs.getD i 0))
  tt : ∀ i, i < k → wr.cell? ⟨w.heap.size, i * 2 + 1, none⟩ = some (.string (ts.getD i ByteArray.empty))

theorem TokInv.start (w : World) (n : Nat) (zs : List Int) (ts : List ByteArray) : TokInv w (w.alloc (.cells (mkToks n) 35)) n 0 zs ts := by
  refine ⟨(Below.refl _ _).alloc (Nat.le_refl _) _, by simp, fun o ho => ?_, fun o => by simp, fun i hi => by omega, fun i hi => by omega⟩
  have : o < (mkToks n).size := by rw [size_mkToks]; exact ho
  exact ⟨(mkToks n)[o], by simp [this]⟩

theorem TokInv.step {w wr : World} {n k : Nat} {zs : List Int} {ts : List ByteArray} (h : TokInv w wr n k zs ts) (hk : k < n) {z : Int} {s : ByteArray} (hz : z = zs.getD k 0) (hs : s = ts.getD k ByteArray.empty) :
    TokInv w ((wr.setCell ⟨w.heap.size, k * 2, none⟩ (.int .u8 z)).setCell ⟨w.heap.size, k * 2 + 1, none⟩ (.string s)).drew n (k + 1) zs ts := by
  obtain ⟨v0, c0⟩ := h.old (k * 2) (by omega)
  obtain ⟨v1, c1⟩ := h.old (k * 2 + 1) (by omega)
  have ne : (⟨w.heap.size, k * 2, none⟩ : Addr) ≠ ⟨w.heap.size, k * 2 + 1, none⟩ := by intro e; simp at e
  have hd : ∀ o, ((wr.setCell ⟨w.heap.size, k * 2, none⟩ (.int .u8 z)).setCell ⟨w.heap.size, k * 2 + 1, none⟩ (.string s)).drew.cell? ⟨w.heap.size, o, none⟩ =
      if o = k * 2 + 1 then some (.string s) else if o = k * 2 then some (.int .u8 z) else wr.cell? ⟨w.heap.size, o, none⟩ := by
    intro o
    show ((wr.setCell ⟨w.heap.size, k * 2, none⟩ (.int .u8 z)).setCell ⟨w.heap.size, k * 2 + 1, none⟩ (.string s)).cell? ⟨w.heap.size, o, none⟩ = _
    by_cases e1 : o = k * 2 + 1
    · subst e1
      rw [if_pos rfl, World.cell?_setCell_same (h := (World.cell?_setCell_other wr _ _ _ ne).trans c1)]
    · have n1 : (⟨w.heap.size, k * 2 + 1, none⟩ : Addr) ≠ ⟨w.heap.size, o, none⟩ := fun e => e1 (congrArg Addr.off e).symm
      rw [if_neg e1, World.cell?_setCell_other (h := n1)]
      by_cases e0 : o = k * 2
      · subst e0
        rw [if_pos rfl, World.cell?_setCell_same (h := c0)]
      · have n0 : (⟨w.heap.size, k * 2, none⟩ : Addr) ≠ ⟨w.heap.size, o, none⟩ := fun e => e0 (congrArg Addr.off e).symm
        rw [if_neg e0, World.cell?_setCell_other (h := n0)]
  refine ⟨((h.below.setCell (Nat.le_refl _) _).setCell (Nat.le_refl _) _).drew, by have := h.sz; simpa [World.setCell] using this, fun o ho => ?_, fun o => ?_, fun i hi => ?_, fun i hi => ?_⟩
  · rw [hd]
    split
    · exact ⟨_, rfl⟩
    · split
      · exact ⟨_, rfl⟩
      · exact h.old o ho
  · show ((wr.setCell ⟨w.heap.size, k * 2, none⟩ (.int .u8 z)).setCell ⟨w.heap.size, k * 2 + 1, none⟩ (.string s)).frozen? ⟨w.heap.size, o, none⟩ = false
    rw [World.frozen?_setCell, World.frozen?_setCell]
    exact h.fz o
  · rw [hd, if_neg (by omega)]
    by_cases e : i = k
    · subst e; rw [if_pos rfl, hz]
    · rw [if_neg (by omega)]; exact h.tk i (by omega)
  · rw [hd]
    by_cases e : i = k
    · subst e; rw [if_pos rfl, hs]
    · rw [if_neg (by omega), if_neg (by omega)]; exact h.tt i (by omega)

theorem TokInv.par {w wr w' : World} {n : Nat} {zs : List Int} {ts : List ByteArray} (h : TokInv w wr n n zs ts) (hlen : zs.length = n) (pos : Nat) (f : Bool) (hb : Below wr.heap.size wr w') (hs : wr.heap.size < w'.heap.size)
    (c2 : w'.cell? ⟨wr.heap.size, 2, none⟩ = some (.slice (some ⟨w.heap.size, 0, none⟩) n n)) (c3 : w'.cell? ⟨wr.heap.size, 3, none⟩ = some (.int .i64 pos)) (z3 : w'.frozen? ⟨wr.heap.size, 3, none⟩ = false)
    (c5 : f = false → w'.cell? ⟨wr.heap.size, 5, none⟩ = some .nilIface) (d5 : f = true → ∃ u v, w'.cell? ⟨wr.heap.size, 5, none⟩ = some (.iface u v)) : Par w' wr.heap.size w.heap.size zs ts pos f := by
  subst hlen
  exact ⟨hs, h.sz, c2, c3, z3, c5, d5, fun i hi => (hb.cell (p := ⟨w.heap.size, i * 2, none⟩) h.sz).trans (h.tk i hi), fun i hi => (hb.cell (p := ⟨w.heap.size, i * 2 + 1, none⟩) h.sz).trans (h.tt i hi)⟩

set_option maxHeartbeats 800000 in
theorem newParser_any (K ko X xo n cn cm : Nat) (zs : List Int) (ts : List ByteArray) (pos : Nat) (f : Bool) (w : World) (hlen : zs.length = n) (hn : n ≤ 65536) (hKs : K < w.heap.size) (hXs : X < w.heap.size)
    (hK : ∀ i, i < n → w.cell? ⟨K, ko + i, none⟩ = some (.int .u8 (zs.getD i 0))) (hX : ∀ i, i < n → w.cell? ⟨X, xo + i, none⟩ = some (.string (ts.getD i ByteArray.empty))) :
    Calls Try.prog 7 #[.slice (some ⟨K, ko, none⟩) n cn, .slice (some ⟨X, xo, none⟩) n cm, .int .i64 pos, .bool f] w
      fun e w' => ∃ P, e = .returned (.pointer (some ⟨P, 0, none⟩)) ∧ Par w' P w.heap.size zs ts pos f ∧ Below w.heap.size w w' := by
  have hmk := run_mkToks n hn
  go_enter Try.func7, Try.ntmps7
  go_wp2
  clear hmk
  go_loopw [10] (fun i wr => ∃ k : Nat, k ≤ n ∧ i = .int .i64 k ∧ TokInv w wr n k zs ts) (fun i _ => n - (intOf i).toNat)
  case atStart => exact ⟨0, Nat.zero_le _, rfl, TokInv.start w n zs ts⟩
  case round =>
    obtain ⟨k, hk, rfl, hI⟩ := hrel
    by_cases hlt : k < n
    · have kx := (hI.below.cell (p := ⟨K, ko + k, none⟩) hKs).trans (hK k hlt)
      have xx := (hI.below.cell (p := ⟨X, xo + k, none⟩) hXs).trans (hX k hlt)
      obtain ⟨v0, c0⟩ := hI.old (k * 2) (by omega)
      obtain ⟨v1, c1⟩ := hI.old (k * 2 + 1) (by omega)
      have f0 := hI.fz (k * 2)
      have f1 := hI.fz (k * 2 + 1)
      have hlt' : (k : Int) < (n : Int) := by omega
      obtain ⟨z, hz⟩ : ∃ z, z = zs.getD k 0 := ⟨_, rfl⟩
      obtain ⟨s, hs⟩ : ∃ s, s = ts.getD k ByteArray.empty := ⟨_, rfl⟩
      have hI2 := hI.step hlt hz hs
      rw [← hz] at kx
      rw [← hs] at xx
      clear hz hs hK hX
      go_wp2
      go_region
      go_wp2
      go_roundw
      case rel => exact ⟨k + 1, by omega, by go_num, hI2⟩
      case measure => simp [intOf]; omega
    · have e : k = n := by omega
      have hI' : Hid (TokInv w wr n n zs ts) := by rw [e] at hI; exact hI
      clear hK hX
      cases f
      · go_wp2
        go_ret
        have hb : Below wr.heap.size wr (wr.alloc (Obj.cells #[Value.string { data := #[] }, Value.int IntKind.i64 0, Value.slice (some { block := w.heap.size, off := 0 }) n n, Value.int IntKind.i64 ↑pos, Value.slice none 0 0, Value.nilIface, Value.int IntKind.i64 0, Value.bool false] 40)) := (Below.refl _ _).alloc (Nat.le_refl _) _
        exact ⟨_, rfl, hI'.out.par hlen pos false hb (by simp) (by simp) (by simp) (by simp) (fun _ => by simp) (fun h => by cases h), hI.below.trans (hb.mono (Nat.le_of_lt hI.sz))⟩
      · go_wp2
        go_ret
        refine ⟨_, rfl, hI'.out.par hlen pos true ?_ ?_ ?_ ?_ ?_ (fun h => by cases h) (fun _ => ⟨41, .pointer (some ⟨wr.heap.size + 1, 0, none⟩), ?_⟩), ?_⟩
        · exact ((Below.refl _ _).alloc (Nat.le_refl _) _).alloc (by simp) _
        · simp; omega
        · simp
        · simp
        · simp
        · simp
        · exact (hI.below.alloc hI.below.size _).alloc (by have := hI.below.size; simp; omega) _

end Go.Proofs.Qxb6613939a
