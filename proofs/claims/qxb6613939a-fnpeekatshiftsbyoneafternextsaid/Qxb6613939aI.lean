import Derived.Test.Qxb6613939aH
namespace Go.Proofs.Qxb6613939a
open Go.ChangeShapes Go.WideShapes Go.ChangeAt Go.RowKit

set_option maxRecDepth 100000 in
set_option maxHeartbeats 1000000 in
theorem walk3_big (a0 a1 : Option Addr) (n c0 m c1 : Nat) (ts : List ByteArray) (pos : Int) (f : Bool) (q : Int) (w : World) (hn : n ≤ maxLen) (hm : m ≤ maxLen) (hX : TS w a1 m ts) (hbig : 65536 < n ∨ 65536 < m) :
    Calls Try.prog 3 #[.slice a0 n c0, .slice a1 m c1, .int .i64 pos, .bool f, .int .i64 q] w fun e w' => e = .returned (.bool true) ∧ Below w.heap.size w w' := by
  have c := zzBytes5_any a0 a1 n c0 m c1 ts pos f q w hn hm hX
  unfold maxLen at hn hm
  go_enter Try.func3, Try.ntmps3
  go_wp2_with fail
  refine c.mono ?_
  rintro e w1 ⟨⟨b, rfl⟩, hw⟩
  obtain rfl := hw.symm
  clear c
  cases b
  · go_wp2
    go_ret
    exact ⟨rfl, Below.refl _ _⟩
  · by_cases h : 65536 < n
    · have h' : (65536 : Int) < (n : Int) := by omega
      go_wp2
      go_ret
      exact ⟨rfl, Below.refl _ _⟩
    · have h' : ¬ (65536 : Int) < (n : Int) := by omega
      have h'' : (65536 : Int) < (m : Int) := by omega
      clear hbig
      go_wp2
      go_ret
      exact ⟨rfl, Below.refl _ _⟩

set_option maxRecDepth 100000 in
set_option maxHeartbeats 1000000 in
theorem walk3_main (ad0 ad1 : Addr) (n c0 m c1 : Nat) (zs : List Int) (ts : List ByteArray) (pos : Int) (f : Bool) (q : Int) (w : World) (hn : n ≤ 65536) (hm : m ≤ 65536) (hK : KS w (some ad0) n zs) (hX : TS w (some ad1) m ts) (hzl : zs.length = n) (htl : ts.length = m) :
    Calls Try.prog 3 #[.slice (some ad0) n c0, .slice (some ad1) m c1, .int .i64 pos, .bool f, .int .i64 q] w fun e w' => e = .returned (.bool true) ∧ Below w.heap.size w w' := by
  have c := zzBytes5_any (some ad0) (some ad1) n c0 m c1 ts pos f q w (by unfold maxLen; omega) (by unfold maxLen; omega) hX
  have hmb := run_mkB n hn
  have hms := run_mkS m hm
  have hcb := run_copyB ad0 n c0 zs w hzl hK
  have hcs := run_copyS ad1 m c1 ts (w.alloc (.cells (kArr zs) 5)) htl (hX.below ((Below.refl _ _).alloc (Nat.le_refl _) _) (Nat.le_refl _))
  rw [World.size_alloc] at hcs
  go_enter Try.func3, Try.ntmps3
  go_wp2_with fail
  refine c.mono ?_
  rintro e w1 ⟨⟨b, rfl⟩, hw⟩
  obtain rfl := hw.symm
  clear c
  cases b
  · go_wp2
    go_ret
    exact ⟨rfl, Below.refl _ _⟩
  · go_wp2
    · go_ret
      exact ⟨rfl, ((Below.refl _ _).alloc (Nat.le_refl _) _).alloc (by simp) _⟩
    clear hmb hms hcb hcs hK hX
    have hbW : Below w.heap.size w ((w.alloc (Obj.cells (kArr zs) 5)).alloc (Obj.cells (tArr ts) 9)) := ((Below.refl _ _).alloc (Nat.le_refl _) _).alloc (by simp) _
    have hsW : ((w.alloc (Obj.cells (kArr zs) 5)).alloc (Obj.cells (tArr ts) 9)).heap.size = w.heap.size + 2 := by simp
    have hkW : ∀ i, i < n → ((w.alloc (Obj.cells (kArr zs) 5)).alloc (Obj.cells (tArr ts) 9)).cell? ⟨w.heap.size, i, none⟩ = some (.int .u8 (zs.getD i 0)) := fun i hi => by
      rw [World.cell?_alloc_past (hn := by simp)]; exact kCell w zs i (by omega)
    have htW : ∀ i, i < m → ((w.alloc (Obj.cells (kArr zs) 5)).alloc (Obj.cells (tArr ts) 9)).cell? ⟨w.heap.size + 1, i, none⟩ = some (.string (ts.getD i ByteArray.empty)) := fun i hi => by
      have := tCell (w.alloc (Obj.cells (kArr zs) 5)) ts i (by omega)
      rwa [World.size_alloc] at this
    generalize hW : (w.alloc (Obj.cells (kArr zs) 5)).alloc (Obj.cells (tArr ts) 9) = W at *
    have HS : Hid (W.heap.size = w.heap.size + 2) := hsW
    clear hW hsW
    go_loop [13, 14] (fun z i => ∃ k : Nat, k ≤ m ∧ i = .int .i64 k ∧ ∃ t : Int, z = .int .i64 t) (fun _ i => m - (intOf i).toNat)
    case atStart => exact ⟨0, Nat.zero_le _, rfl, _, rfl⟩
    case round =>
      obtain ⟨k, hk, rfl, t, rfl⟩ := hrel
      by_cases hlt : k < m
      · have hx := htW k hlt
        obtain ⟨s, hs⟩ : ∃ s, s = ts.getD k ByteArray.empty := ⟨_, rfl⟩
        rw [← hs] at hx
        clear hs htW hkW
        go_wp2
        · go_ret
          exact ⟨rfl, hbW⟩
        · go_round
          case rel => exact ⟨k + 1, by omega, by go_num, _, rfl⟩
          case measure => simp [intOf]; omega
      · have cr := reach_any (some ⟨w.heap.size, 0, none⟩) (some ⟨w.heap.size + 1, 0, none⟩) n n m m zs ts W hn (.inr ⟨_, 0, rfl, by rw [HS.out]; omega, by simpa using hkW⟩) (.inr ⟨_, 0, rfl, by rw [HS.out]; omega, by simpa using htW⟩)
        go_wp2_with fail
        refine cr.mono ?_
        rintro e w2 ⟨⟨b, rfl, hr⟩, hw2⟩
        obtain rfl := hw2.symm
        clear cr
        cases b
        · go_wp2
          go_ret
          exact ⟨rfl, hbW⟩
        · have R := hr rfl
          clear hr
          by_cases hp : 0 ≤ pos ∧ pos ≤ n ∧ 0 ≤ q ∧ q ≤ 9223372036854775807 - pos - 1
          · obtain ⟨hp0, hp1, hq0, hq1⟩ := hp
            obtain ⟨p, rfl⟩ := Int.eq_ofNat_of_zero_le hp0
            obtain ⟨r, rfl⟩ := Int.eq_ofNat_of_zero_le hq0
            have hmn := R.eq
            subst hmn
            clear R hlt hk hp0 hq0
            have hKs : w.heap.size < W.heap.size := by rw [HS.out]; omega
            have hXs : w.heap.size + 1 < W.heap.size := by rw [HS.out]; omega
            have c7 := newParser_any w.heap.size 0 (w.heap.size + 1) 0 m m m zs ts p f W hzl hn hKs hXs (by simpa using hkW) (by simpa using htW)
            go_wp2_with fail
            refine c7.mono ?_
            clear c7
            rintro e w2 ⟨P, rfl, par2, hb2⟩
            have hk2 : ∀ i, i < m → w2.cell? ⟨w.heap.size, i, none⟩ = some (.int .u8 (zs.getD i 0)) := fun i hi => (hb2.cell (p := ⟨w.heap.size, i, none⟩) hKs).trans (hkW i hi)
            have ht2 : ∀ i, i < m → w2.cell? ⟨w.heap.size + 1, i, none⟩ = some (.string (ts.getD i ByteArray.empty)) := fun i hi => (hb2.cell (p := ⟨w.heap.size + 1, i, none⟩) hXs).trans (htW i hi)
            have c8 := tokenAt_any w.heap.size (w.heap.size + 1) m m m m zs ts f (p + r + 1) w2 hzl rfl hk2 ht2
            rw [show ((p + r + 1 : Nat) : Int) = (p : Int) + (r : Int) + 1 from by omega] at c8
            clear hkW htW
            go_wp2_with fail
            refine c8.mono ?_
            clear c8
            rintro e w3 ⟨rfl, hb3⟩
            have hKs2 : w.heap.size < w2.heap.size := Nat.lt_of_lt_of_le hKs hb2.size
            have hXs2 : w.heap.size + 1 < w2.heap.size := Nat.lt_of_lt_of_le hXs hb2.size
            have hk3 : ∀ i, i < m → w3.cell? ⟨w.heap.size, i, none⟩ = some (.int .u8 (zs.getD i 0)) := fun i hi => (hb3.cell (p := ⟨w.heap.size, i, none⟩) hKs2).trans (hk2 i hi)
            have ht3 : ∀ i, i < m → w3.cell? ⟨w.heap.size + 1, i, none⟩ = some (.string (ts.getD i ByteArray.empty)) := fun i hi => (hb3.cell (p := ⟨w.heap.size + 1, i, none⟩) hXs2).trans (ht2 i hi)
            have c8 := tokenAt_any w.heap.size (w.heap.size + 1) m m m m zs ts f (p + r) w3 hzl rfl hk3 ht3
            rw [show ((p + r : Nat) : Int) = (p : Int) + (r : Int) from by omega] at c8
            have par3 := par2.below hb3 par2.hP
            clear hk2 ht2 hk3 ht3 par2
            go_wp2_with fail
            refine c8.mono ?_
            clear c8
            rintro e w4 ⟨rfl, hb4⟩
            have par4 := par3.below hb4 par3.hP
            clear par3
            have c9 := zzPeekAt_any par4 (r + 1) (by omega) (by omega)
            rw [show ((r + 1 : Nat) : Int) = (r : Int) + 1 from by omega, show p + (r + 1) = p + r + 1 from rfl] at c9
            go_wp2_with fail
            refine c9.mono ?_
            clear c9
            rintro e w5 ⟨rfl, hb5⟩
            have par5 := par4.below hb5 par4.hP
            clear par4
            have c9 := zzPeekAt_any par5 r (by omega) (by omega)
            go_wp2_with fail
            refine c9.mono ?_
            clear c9
            rintro e w6 ⟨rfl, hb6⟩
            have par6 := par5.below hb6 par5.hP
            clear par5
            have c9 := zzPeekAt_any par6 0 (by omega) (by omega)
            rw [show ((0 : Nat) : Int) = 0 from rfl, Nat.add_zero] at c9
            go_wp2_with fail
            refine c9.mono ?_
            clear c9
            rintro e w7 ⟨rfl, hb7⟩
            have par7 := par6.below hb7 par6.hP
            clear par6
            have c10 := zzNext_any par7 (by omega) (by omega)
            go_wp2_with fail
            refine c10.mono ?_
            clear c10
            rintro e w8 ⟨rfl, par8, hb8⟩
            have hPW : W.heap.size < P := par8.hT
            have hWle : w.heap.size ≤ W.heap.size := hbW.size
            have hB : Below w.heap.size w w8 := ((((((hbW.trans (hb2.mono (by omega))).trans (hb3.mono (by have := hb2.size; omega))).trans (hb4.mono (by have := hb2.size; have := hb3.size; omega))).trans (hb5.mono (by have := hb2.size; have := hb3.size; have := hb4.size; omega))).trans (hb6.mono (by have := hb2.size; have := hb3.size; have := hb4.size; have := hb5.size; omega))).trans (hb7.mono (by have := hb2.size; have := hb3.size; have := hb4.size; have := hb5.size; have := hb6.size; omega))).trans (hb8.mono (by omega))
            have hw8 : w.heap.size ≤ w8.heap.size := hB.size
            by_cases h7 : tokK zs f p = 7
            · have e8 : adv zs f p = p := by unfold adv; rw [if_pos h7]
              rw [e8] at par8
              have c9 := zzPeekAt_any par8 r (by omega) (by omega)
              clear e8 hb2 hb3 hb4 hb5 hb6 hb7 hb8 par7 par8
              go_wp2_with fail
              refine c9.mono ?_
              clear c9
              rintro e w9 ⟨rfl, hb9⟩
              have hB9 : Below w.heap.size w w9 := hB.trans (hb9.mono hw8)
              clear hB hb9
              go_wp2
              go_ret
              exact ⟨rfl, hB9⟩
            · have e8 : adv zs f p = p + 1 := by unfold adv; rw [if_neg h7]
              rw [e8] at par8
              have c9 := zzPeekAt_any par8 r (by omega) (by omega)
              rw [show p + 1 + r = p + r + 1 from by omega] at c9
              clear e8 hb2 hb3 hb4 hb5 hb6 hb7 hb8 par7 par8
              have h7b : (tokK zs f p == 7) = false := by simpa using h7
              clear h7
              go_wp2_with fail
              refine c9.mono ?_
              clear c9
              rintro e w9 ⟨rfl, hb9⟩
              have hB9 : Below w.heap.size w w9 := hB.trans (hb9.mono hw8)
              clear hB hb9
              go_wp2
              go_ret
              exact ⟨rfl, hB9⟩
          · go_wp2_with fail
            all_goals go_ret
            all_goals exact ⟨rfl, hbW⟩

end Go.Proofs.Qxb6613939a
