import Derived.Test.Qxb6613939aL
namespace Go.Proofs.Qxb6613939a
open Go.ChangeShapes Go.WideShapes Go.ChangeAt Go.RowKit

set_option maxRecDepth 100000 in
set_option maxHeartbeats 1000000 in
theorem walk4_nn (pos : Int) (f : Bool) (q : Int) (w : World) :
    Calls Try.prog 4 #[.slice none 0 0, .slice none 0 0, .int .i64 pos, .bool f, .int .i64 q] w fun e w' => e = .returned (.bool true) ∧ Below w.heap.size w w' := by
  have c := zzBytes11_any none none 0 0 0 0 [] pos f q w (Nat.zero_le _) (Nat.zero_le _) (.inl rfl)
  have cr := reach_any none none 0 0 0 0 [] [] w (Nat.zero_le _) (.inl rfl) (.inl rfl)
  go_enter Try.func4, Try.ntmps4
  go_wp2_with fail
  refine c.mono ?_
  rintro e w1 ⟨⟨b, rfl⟩, hw⟩
  obtain rfl := hw.symm
  clear c
  cases b
  · go_wp2
    go_ret
    exact ⟨rfl, Below.refl _ _⟩
  · go_wp2
    refine wp_loop_rounds 1 ?_
    rw [rounds_succ]
    go_wp2_with fail
    refine cr.mono ?_
    rintro e w2 ⟨⟨b, rfl, hr⟩, hw2⟩
    obtain rfl := hw2.symm
    clear cr
    cases b
    · go_wp2
      go_ret
      exact ⟨rfl, Below.refl _ _⟩
    · exact absurd (hr rfl).pos (by omega)

set_option maxRecDepth 100000 in
set_option maxHeartbeats 1000000 in
theorem walk4_sn (ad0 : Addr) (n c0 : Nat) (zs : List Int) (pos : Int) (f : Bool) (q : Int) (w : World) (hn : n ≤ 65536) (hK : KS w (some ad0) n zs) (hzl : zs.length = n) :
    Calls Try.prog 4 #[.slice (some ad0) n c0, .slice none 0 0, .int .i64 pos, .bool f, .int .i64 q] w fun e w' => e = .returned (.bool true) ∧ Below w.heap.size w w' := by
  have c := zzBytes11_any (some ad0) none n c0 0 0 [] pos f q w (by unfold maxLen; omega) (Nat.zero_le _) (.inl rfl)
  have hmb := run_mkB n hn
  have hcb := run_copyB ad0 n c0 zs w hzl hK
  have hbW : Below w.heap.size w (w.alloc (Obj.cells (kArr zs) 5)) := (Below.refl _ _).alloc (Nat.le_refl _) _
  have cr := reach_any (some ⟨w.heap.size, 0, none⟩) none n n 0 0 zs [] (w.alloc (Obj.cells (kArr zs) 5)) hn (.inr ⟨_, 0, rfl, by simp, fun i hi => by rw [Nat.zero_add]; exact kCell w zs i (by omega)⟩) (.inl rfl)
  go_enter Try.func4, Try.ntmps4
  go_wp2_with fail
  refine c.mono ?_
  rintro e w1 ⟨⟨b, rfl⟩, hw⟩
  obtain rfl := hw.symm
  clear c
  cases b
  · go_wp2
    go_ret
    exact ⟨rfl, Below.refl _ _⟩
  · go_wp2
    all_goals first | (go_ret; exact ⟨rfl, hbW⟩) | skip
    clear hmb hcb hK
    refine wp_loop_rounds 1 ?_
    rw [rounds_succ]
    go_wp2_with fail
    refine cr.mono ?_
    rintro e w2 ⟨⟨b, rfl, hr⟩, hw2⟩
    obtain rfl := hw2.symm
    clear cr
    cases b
    · go_wp2
      go_ret
      exact ⟨rfl, hbW⟩
    · exact absurd (hr rfl).pos (by have := (hr rfl).eq; omega)

set_option maxRecDepth 100000 in
set_option maxHeartbeats 1000000 in
theorem walk4_ns (ad1 : Addr) (m c1 : Nat) (ts : List ByteArray) (pos : Int) (f : Bool) (q : Int) (w : World) (hm : m ≤ 65536) (hX : TS w (some ad1) m ts) (htl : ts.length = m) :
    Calls Try.prog 4 #[.slice none 0 0, .slice (some ad1) m c1, .int .i64 pos, .bool f, .int .i64 q] w fun e w' => e = .returned (.bool true) ∧ Below w.heap.size w w' := by
  have c := zzBytes11_any none (some ad1) 0 0 m c1 ts pos f q w (Nat.zero_le _) (by unfold maxLen; omega) hX
  have hms := run_mkS m hm
  have hcs := run_copyS ad1 m c1 ts w htl hX
  have hbW : Below w.heap.size w (w.alloc (Obj.cells (tArr ts) 9)) := (Below.refl _ _).alloc (Nat.le_refl _) _
  have htW : ∀ i, i < m → (w.alloc (Obj.cells (tArr ts) 9)).cell? ⟨w.heap.size, i, none⟩ = some (.string (ts.getD i ByteArray.empty)) := fun i hi => tCell w ts i (by omega)
  have cr := reach_any none (some ⟨w.heap.size, 0, none⟩) 0 0 m m [] ts (w.alloc (Obj.cells (tArr ts) 9)) (Nat.zero_le _) (.inl rfl) (.inr ⟨_, 0, rfl, by simp, fun i hi => by rw [Nat.zero_add]; exact htW i hi⟩)
  go_enter Try.func4, Try.ntmps4
  go_wp2_with fail
  refine c.mono ?_
  rintro e w1 ⟨⟨b, rfl⟩, hw⟩
  obtain rfl := hw.symm
  clear c
  cases b
  · go_wp2
    go_ret
    exact ⟨rfl, Below.refl _ _⟩
  · go_wp2
    all_goals first | (go_ret; exact ⟨rfl, hbW⟩) | skip
    clear hms hcs hX
    generalize hW : w.alloc (Obj.cells (tArr ts) 9) = W at *
    clear hW
    go_loop [13, 14] (fun z i => ∃ k : Nat, k ≤ m ∧ i = .int .i64 k ∧ ∃ t : Int, z = .int .i64 t) (fun _ i => m - (intOf i).toNat)
    case atStart => exact ⟨0, Nat.zero_le _, rfl, _, rfl⟩
    case round =>
      obtain ⟨k, hk, rfl, t, rfl⟩ := hrel
      by_cases hlt : k < m
      · have hx := htW k hlt
        obtain ⟨s, hs⟩ : ∃ s, s = ts.getD k ByteArray.empty := ⟨_, rfl⟩
        rw [← hs] at hx
        clear hs htW cr
        go_wp2
        · go_ret
          exact ⟨rfl, hbW⟩
        · go_round
          case rel => exact ⟨k + 1, by omega, by go_num, _, rfl⟩
          case measure => simp [intOf]; omega
      · go_wp2_with fail
        refine cr.mono ?_
        rintro e w2 ⟨⟨b, rfl, hr⟩, hw2⟩
        obtain rfl := hw2.symm
        clear cr
        cases b
        · go_wp2
          go_ret
          exact ⟨rfl, hbW⟩
        · exact absurd (hr rfl).pos (by omega)

/-- The law's walk, whatever the input. -/
theorem walk4 (a0 a1 : Option Addr) (n c0 m c1 : Nat) (zs : List Int) (ts : List ByteArray) (pos : Int) (f : Bool) (q : Int) (w : World) (hn : n ≤ maxLen) (hm : m ≤ maxLen) (h0 : a0 = none → n = 0 ∧ c0 = 0) (h1 : a1 = none → m = 0 ∧ c1 = 0)
    (hK : KS w a0 n zs) (hX : TS w a1 m ts) (hzl : zs.length = n) (htl : ts.length = m) :
    Calls Try.prog 4 #[.slice a0 n c0, .slice a1 m c1, .int .i64 pos, .bool f, .int .i64 q] w fun e w' => e = .returned (.bool true) ∧ Below w.heap.size w w' := by
  by_cases hbig : 65536 < n ∨ 65536 < m
  · exact walk4_big a0 a1 n c0 m c1 ts pos f q w hn hm hX hbig
  · have hn' : n ≤ 65536 := by omega
    have hm' : m ≤ 65536 := by omega
    cases a0 with
    | none =>
      obtain ⟨rfl, rfl⟩ := h0 rfl
      cases a1 with
      | none =>
        obtain ⟨rfl, rfl⟩ := h1 rfl
        exact walk4_nn pos f q w
      | some ad1 => exact walk4_ns ad1 m c1 ts pos f q w hm' hX htl
    | some ad0 =>
      cases a1 with
      | none =>
        obtain ⟨rfl, rfl⟩ := h1 rfl
        exact walk4_sn ad0 n c0 zs pos f q w hn' hK hzl
      | some ad1 => exact walk4_main ad0 ad1 n c0 m c1 zs ts pos f q w hn' hm' hK hX hzl htl

end Go.Proofs.Qxb6613939a
