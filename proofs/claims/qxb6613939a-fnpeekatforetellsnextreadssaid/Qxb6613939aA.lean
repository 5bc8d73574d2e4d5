import Derived.Test.Qxb6613939aRows
import Derived.WalkKit
import Derived.ProofKit
import Derived.WalkLawsBesides
import Derived.WalkSpells
import Derived.Deep.QuietTactic
import Derived.BigQuiet
import Derived.BigRegion
namespace Go.Proofs.Qxb6613939a
open Go.ChangeShapes Go.WideShapes Go.ChangeAt Go.RowKit

theorem bcell {W w1 : World} (hb : Below W.heap.size W w1) : (∀ b o, b < W.heap.size → w1.cell? ⟨b, o, none⟩ = W.cell? ⟨b, o, none⟩) ∧ (∀ b o, b < W.heap.size → w1.frozen? ⟨b, o, none⟩ = W.frozen? ⟨b, o, none⟩) :=
  ⟨fun b o h => hb.cell (p := ⟨b, o, none⟩) h, fun b o h => hb.frozen (p := ⟨b, o, none⟩) h⟩

/-! tokenAt (8) -/
set_option maxHeartbeats 400000 in
theorem tokenAt_end (a c : Option Addr) (n cn m cm : Nat) (f : Bool) (i : Int) (w : World) (h : f = true ∨ (n : Int) ≤ i) :
    Calls Try.prog 8 #[.slice a n cn, .slice c m cm, .bool f, .int .i64 i] w fun e w' => e = .returned (.tuple #[.int .u8 7, .string ByteArray.empty]) ∧ w' = w := by
  cases f
  · have h' : (n : Int) ≤ i := by simpa using h
    go_enter Try.func8, Try.ntmps8
    go_wp2
    go_ret2
    exact ⟨rfl, rfl⟩
  · go_enter Try.func8, Try.ntmps8
    go_wp2
    go_ret2
    exact ⟨rfl, rfl⟩

set_option maxHeartbeats 400000 in
theorem tokenAt_in (K ko X xo n cn m cm : Nat) (i : Nat) (k : Int) (t : ByteArray) (w : World) (hi : i < n) (hm : i < m)
    (hk : w.cell? ⟨K, ko + i, none⟩ = some (.int .u8 k)) (ht : w.cell? ⟨X, xo + i, none⟩ = some (.string t)) :
    Calls Try.prog 8 #[.slice (some ⟨K, ko, none⟩) n cn, .slice (some ⟨X, xo, none⟩) m cm, .bool false, .int .i64 i] w fun e w' => e = .returned (.tuple #[.int .u8 k, .string t]) ∧ ∃ q, w' = w.drewN q := by
  have h1 : (i : Int) < (n : Int) := by omega
  have h2 : (i : Int) < (m : Int) := by omega
  go_enter Try.func8, Try.ntmps8
  go_wp2
  go_quiet (fail)
  go_wp2
  go_ret2
  exact ⟨rfl, _, rfl⟩

end Go.Proofs.Qxb6613939a
