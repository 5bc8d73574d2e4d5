import Derived.Test.Qxb6613939aD
namespace Go.Proofs.Qxb6613939a
open Go.ChangeShapes Go.WideShapes Go.ChangeAt Go.RowKit

/-- A line that the lexer can hand the parser. -/
structure Reach (zs : List Int) (ts : List ByteArray) (n m : Nat) : Prop where
  eq : m = n
  pos : 0 < n
  last : zs.getD (n - 1) 0 = 7
  text : ts.getD (n - 1) ByteArray.empty = ByteArray.empty
  before : ∀ i, i < n - 1 → 1 ≤ zs.getD i 0 ∧ zs.getD i 0 ≤ 6
def ReachOut (zs : List Int) (ts : List ByteArray) (n m : Nat) (e : Ending) : Prop := ∃ b, e = .returned (.bool b) ∧ (b = true → Reach zs ts n m)

def Mid (zs : List Int) (k : Nat) : Prop := ∀ j, j < k → 1 ≤ zs.getD j 0 ∧ zs.getD j 0 ≤ 6
theorem Mid.snoc {zs : List Int} {k : Nat} (h : Mid zs k) (h1 : 1 ≤ zs.getD k 0) (h2 : zs.getD k 0 ≤ 6) : Mid zs (k + 1) := by
  intro j hj
  by_cases e : j = k
  · subst e; exact ⟨h1, h2⟩
  · exact h j (by omega)
theorem empty_of {s : ByteArray} (h : (!s.toList.isEmpty) = false) : s = ByteArray.empty := by
  have h1 : s.toList = [] := by simpa using h
  rw [ByteArray.toList_eq] at h1
  cases s
  simp at h1
  subst h1
  rfl

set_option maxHeartbeats 800000 in
theorem reach_no (a c : Option Addr) (n cn m cm : Nat) (zs : List Int) (ts : List ByteArray) (w : World) (h : n = 0 ∨ m ≠ n) :
    Calls Try.prog 6 #[.slice a n cn, .slice c m cm] w fun e w' => ReachOut zs ts n m e ∧ w' = w := by
  by_cases h0 : n = 0
  · subst h0
    go_enter Try.func6, Try.ntmps6
    go_wp2
    go_ret
    exact ⟨⟨_, rfl, fun h => by cases h⟩, rfl⟩
  · have h1 : ((n : Int) == 0) = false := by simp; omega
    have h2 : ((n : Int) != (m : Int)) = true := by simp; omega
    clear h
    go_enter Try.func6, Try.ntmps6
    go_wp2
    go_ret
    exact ⟨⟨_, rfl, fun h => by cases h⟩, rfl⟩

set_option maxHeartbeats 800000 in
theorem reach_yes (K ko X xo n cn cm : Nat) (zs : List Int) (ts : List ByteArray) (w : World) (h0 : 0 < n) (hn : n ≤ 65536)
    (hK : ∀ i, i < n → w.cell? ⟨K, ko + i, none⟩ = some (.int .u8 (zs.getD i 0))) (hX : ∀ i, i < n → w.cell? ⟨X, xo + i, none⟩ = some (.string (ts.getD i ByteArray.empty))) :
    Calls Try.prog 6 #[.slice (some ⟨K, ko, none⟩) n cn, .slice (some ⟨X, xo, none⟩) n cm] w fun e w' => ReachOut zs ts n n e ∧ w' = w := by
  obtain ⟨l, rfl⟩ : ∃ l, n = l + 1 := ⟨n - 1, by omega⟩
  have kl := hK l (by omega)
  have xl := hX l (by omega)
  go_enter Try.func6, Try.ntmps6
  go_wp2
  all_goals first | (go_ret; exact ⟨⟨_, rfl, fun h => by cases h⟩, rfl⟩) | skip
  have h7 : zs[l]?.getD 0 = 7 := by assumption
  have he : (!(ts[l]?.getD ByteArray.empty).toList.isEmpty) = false := by assumption
  have H7 : Hid (zs[l]?.getD 0 = 7) := h7
  have HE : Hid ((!(ts[l]?.getD ByteArray.empty).toList.isEmpty) = false) := he
  clear h7 he kl xl
  go_loop [6] (fun i => ∃ k : Nat, k ≤ l ∧ i = .int .i64 k ∧ Mid zs k) (fun i => l - (intOf i).toNat)
  case atStart => exact ⟨0, Nat.zero_le _, rfl, fun j hj => by omega⟩
  case round =>
    obtain ⟨k, hk, rfl, hM⟩ := hrel
    by_cases hlt : k < l
    · have hx := hK k (by omega)
      obtain ⟨z, hz⟩ : ∃ z, z = zs.getD k 0 := ⟨_, rfl⟩
      rw [← hz] at hx
      have HZ : Hid (z = zs.getD k 0) := hz
      clear hz hK hX
      go_wp2
      all_goals first | (go_ret; exact ⟨⟨_, rfl, fun h => by cases h⟩, rfl⟩) | skip
      go_round
      case rel => exact ⟨k + 1, by omega, by go_num, hM.snoc (by rw [← HZ.out]; omega) (by rw [← HZ.out]; omega)⟩
      case measure => simp [intOf]; omega
    · go_wp2
      go_ret
      have : k = l := by omega
      subst this
      exact ⟨⟨_, rfl, fun _ => ⟨rfl, by omega, by simpa using H7.out, by simpa using empty_of HE.out, hM⟩⟩, rfl⟩

theorem reach_any (a c : Option Addr) (n cn m cm : Nat) (zs : List Int) (ts : List ByteArray) (w : World) (hn : n ≤ 65536) (hK : KS w a n zs) (hX : TS w c m ts) :
    Calls Try.prog 6 #[.slice a n cn, .slice c m cm] w fun e w' => ReachOut zs ts n m e ∧ w' = w := by
  by_cases h : n = 0 ∨ m ≠ n
  · exact reach_no a c n cn m cm zs ts w h
  · obtain rfl : m = n := by omega
    rcases hK with h0 | ⟨K, ko, rfl, _, hK⟩
    · omega
    rcases hX with h0 | ⟨X, xo, rfl, _, hX⟩
    · omega
    exact reach_yes K ko X xo m cn cm zs ts w (by omega) hn hK hX

end Go.Proofs.Qxb6613939a
