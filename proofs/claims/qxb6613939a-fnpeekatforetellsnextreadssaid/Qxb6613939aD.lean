import Derived.Test.Qxb6613939aC
namespace Go.Proofs.Qxb6613939a
open Go.ChangeShapes Go.WideShapes Go.ChangeAt Go.RowKit

/-- It returned a bool. -/
def IsB (e : Ending) : Prop := ∃ b, e = .returned (.bool b)

/-! zzBytes (5, 11) -/
/-- What is known of a slice of strings, up to its length. -/
def TS (w : World) (c : Option Addr) (m : Nat) (ts : List ByteArray) : Prop := m = 0 ∨ ∃ X xo, c = some ⟨X, xo, none⟩ ∧ X < w.heap.size ∧ ∀ i, i < m → w.cell? ⟨X, xo + i, none⟩ = some (.string (ts.getD i ByteArray.empty))
/-- What is known of a slice of bytes, up to its length. -/
def KS (w : World) (c : Option Addr) (m : Nat) (zs : List Int) : Prop := m = 0 ∨ ∃ X xo, c = some ⟨X, xo, none⟩ ∧ X < w.heap.size ∧ ∀ i, i < m → w.cell? ⟨X, xo + i, none⟩ = some (.int .u8 (zs.getD i 0))

set_option maxHeartbeats 800000 in
theorem zzBytes5_in (a : Option Addr) (n cn m cm X xo : Nat) (ts : List ByteArray) (pos : Int) (f : Bool) (q : Int) (w : World) (hn : n ≤ maxLen) (hm : m ≤ maxLen)
    (hX : ∀ i, i < m → w.cell? ⟨X, xo + i, none⟩ = some (.string (ts.getD i ByteArray.empty))) :
    Calls Try.prog 5 #[.slice a n cn, .slice (some ⟨X, xo, none⟩) m cm, .int .i64 pos, .bool f, .int .i64 q] w fun e w' => IsB e ∧ w' = w := by
  unfold maxLen at hn hm
  go_enter Try.func5, Try.ntmps5
  go_wp2
  all_goals first | (go_ret; exact ⟨⟨_, rfl⟩, rfl⟩) | skip
  go_loop [11, 12] (fun z i => ∃ k : Nat, k ≤ m ∧ i = .int .i64 k ∧ ∃ t : Int, 0 ≤ t ∧ t ≤ 1048576 ∧ z = .int .i64 t) (fun _ i => m - (intOf i).toNat)
  case atStart => exact ⟨0, Nat.zero_le _, rfl, _, by omega, by assumption, rfl⟩
  case round =>
    obtain ⟨k, hk, rfl, t, t0, t1, rfl⟩ := hrel
    by_cases hlt : k < m
    · have hx := hX k hlt
      obtain ⟨s, hs⟩ : ∃ s, s = ts.getD k ByteArray.empty := ⟨_, rfl⟩
      rw [← hs] at hx
      clear hs hX
      go_wp2
      all_goals first | (go_ret; exact ⟨⟨_, rfl⟩, rfl⟩) | skip
      go_round
      case rel => exact ⟨k + 1, by omega, by go_num, _, by omega, by assumption, rfl⟩
      case measure => simp [intOf]; omega
    · go_wp2
      go_ret
      exact ⟨⟨_, rfl⟩, rfl⟩

set_option maxHeartbeats 800000 in
theorem zzBytes5_nil (a c : Option Addr) (n cn cm : Nat) (pos : Int) (f : Bool) (q : Int) (w : World) (hn : n ≤ maxLen) :
    Calls Try.prog 5 #[.slice a n cn, .slice c 0 cm, .int .i64 pos, .bool f, .int .i64 q] w fun e w' => IsB e ∧ w' = w := by
  unfold maxLen at hn
  go_enter Try.func5, Try.ntmps5
  go_wp2
  all_goals first | (go_ret; exact ⟨⟨_, rfl⟩, rfl⟩) | skip
  refine wp_loop_rounds 1 ?_
  rw [rounds_succ]
  go_wp2
  go_ret
  exact ⟨⟨_, rfl⟩, rfl⟩

theorem zzBytes5_any (a c : Option Addr) (n cn m cm : Nat) (ts : List ByteArray) (pos : Int) (f : Bool) (q : Int) (w : World) (hn : n ≤ maxLen) (hm : m ≤ maxLen) (hX : TS w c m ts) :
    Calls Try.prog 5 #[.slice a n cn, .slice c m cm, .int .i64 pos, .bool f, .int .i64 q] w fun e w' => IsB e ∧ w' = w := by
  rcases hX with rfl | ⟨X, xo, rfl, _, h⟩
  · exact zzBytes5_nil a c n cn cm pos f q w hn
  · exact zzBytes5_in a n cn m cm X xo ts pos f q w hn hm h

set_option maxHeartbeats 800000 in
theorem zzBytes11_in (a : Option Addr) (n cn m cm X xo : Nat) (ts : List ByteArray) (pos : Int) (f : Bool) (q : Int) (w : World) (hn : n ≤ maxLen) (hm : m ≤ maxLen)
    (hX : ∀ i, i < m → w.cell? ⟨X, xo + i, none⟩ = some (.string (ts.getD i ByteArray.empty))) :
    Calls Try.prog 11 #[.slice a n cn, .slice (some ⟨X, xo, none⟩) m cm, .int .i64 pos, .bool f, .int .i64 q] w fun e w' => IsB e ∧ w' = w := by
  unfold maxLen at hn hm
  go_enter Try.func11, Try.ntmps11
  go_wp2
  all_goals first | (go_ret; exact ⟨⟨_, rfl⟩, rfl⟩) | skip
  go_loop [11, 12] (fun z i => ∃ k : Nat, k ≤ m ∧ i = .int .i64 k ∧ ∃ t : Int, 0 ≤ t ∧ t ≤ 1048576 ∧ z = .int .i64 t) (fun _ i => m - (intOf i).toNat)
  case atStart => exact ⟨0, Nat.zero_le _, rfl, _, by omega, by assumption, rfl⟩
  case round =>
    obtain ⟨k, hk, rfl, t, t0, t1, rfl⟩ := hrel
    by_cases hlt : k < m
    · have hx := hX k hlt
      obtain ⟨s, hs⟩ : ∃ s, s = ts.getD k ByteArray.empty := ⟨_, rfl⟩
      rw [← hs] at hx
      clear hs hX
      go_wp2
      all_goals first | (go_ret; exact ⟨⟨_, rfl⟩, rfl⟩) | skip
      go_round
      case rel => exact ⟨k + 1, by omega, by go_num, _, by omega, by assumption, rfl⟩
      case measure => simp [intOf]; omega
    · go_wp2
      go_ret
      exact ⟨⟨_, rfl⟩, rfl⟩

set_option maxHeartbeats 800000 in
theorem zzBytes11_nil (a c : Option Addr) (n cn cm : Nat) (pos : Int) (f : Bool) (q : Int) (w : World) (hn : n ≤ maxLen) :
    Calls Try.prog 11 #[.slice a n cn, .slice c 0 cm, .int .i64 pos, .bool f, .int .i64 q] w fun e w' => IsB e ∧ w' = w := by
  unfold maxLen at hn
  go_enter Try.func11, Try.ntmps11
  go_wp2
  all_goals first | (go_ret; exact ⟨⟨_, rfl⟩, rfl⟩) | skip
  refine wp_loop_rounds 1 ?_
  rw [rounds_succ]
  go_wp2
  go_ret
  exact ⟨⟨_, rfl⟩, rfl⟩

theorem zzBytes11_any (a c : Option Addr) (n cn m cm : Nat) (ts : List ByteArray) (pos : Int) (f : Bool) (q : Int) (w : World) (hn : n ≤ maxLen) (hm : m ≤ maxLen) (hX : TS w c m ts) :
    Calls Try.prog 11 #[.slice a n cn, .slice c m cm, .int .i64 pos, .bool f, .int .i64 q] w fun e w' => IsB e ∧ w' = w := by
  rcases hX with rfl | ⟨X, xo, rfl, _, h⟩
  · exact zzBytes11_nil a c n cn cm pos f q w hn
  · exact zzBytes11_in a n cn m cm X xo ts pos f q w hn hm h

end Go.Proofs.Qxb6613939a
