import Derived.Test.Qxb6613939aK
namespace Go.Proofs.Qxb6613939a
open Go.ChangeShapes Go.WideShapes Go.ChangeAt Go.RowKit

set_option maxRecDepth 100000 in
set_option maxHeartbeats 1000000 in
theorem walk4_big (a0 a1 : Option Addr) (n c0 m c1 : Nat) (ts : List ByteArray) (pos : Int) (f : Bool) (q : Int) (w : World) (hn : n ≤ maxLen) (hm : m ≤ maxLen) (hX : TS w a1 m ts) (hbig : 65536 < n ∨ 65536 < m) :
    Calls Try.prog 4 #[.slice a0 n c0, .slice a1 m c1, .int .i64 pos, .bool f, .int .i64 q] w fun e w' => e = .returned (.bool true) ∧ Below w.heap.size w w' := by
  have c := zzBytes11_any a0 a1 n c0 m c1 ts pos f q w hn hm hX
  unfold maxLen at hn hm
  go_enter Try.func4, Try.ntmps4
  go_wp2_with fail
  refine c.mono ?_
  rintro e w1 ⟨⟨b, rfl⟩, hw⟩
  obtain rfl := hw.symm
  clear c
  cases b
  · go_wp2
    go_ret
    exact ⟨rfl, Below.refl _ _⟩
  · by_cases h : 65536 < n
    · have h' : (65536 : Int) < (n : Int) := by omega
      go_wp2
      go_ret
      exact ⟨rfl, Below.refl _ _⟩
    · have h' : ¬ (65536 : Int) < (n : Int) := by omega
      have h'' : (65536 : Int) < (m : Int) := by omega
      clear hbig
      go_wp2
      go_ret
      exact ⟨rfl, Below.refl _ _⟩

set_option maxRecDepth 100000 in
set_option maxHeartbeats 1000000 in
theorem walk4_main (ad0 ad1 : Addr) (n c0 m c1 : Nat) (zs : List Int) (ts : List ByteArray) (pos : Int) (f : Bool) (q : Int) (w : World) (hn : n ≤ 65536) (hm : m ≤ 65536) (hK : KS w (some ad0) n zs) (hX : TS w (some ad1) m ts) (hzl : zs.length = n) (htl : ts.length = m) :
    Calls Try.prog 4 #[.slice (some ad0) n c0, .slice (some ad1) m c1, .int .i64 pos, .bool f, .int .i64 q] w fun e w' => e = .returned (.bool true) ∧ Below w.heap.size w w' := by
  have c := zzBytes11_any (some ad0) (some ad1) n c0 m c1 ts pos f q w (by unfold maxLen; omega) (by unfold maxLen; omega) hX
  have hmb := run_mkB n hn
  have hms := run_mkS m hm
  have hcb := run_copyB ad0 n c0 zs w hzl hK
  have hcs := run_copyS ad1 m c1 ts (w.alloc (.cells (kArr zs) 5)) htl (hX.below ((Below.refl _ _).alloc (Nat.le_refl _) _) (Nat.le_refl _))
  rw [World.size_alloc] at hcs
  go_enter Try.func4, Try.ntmps4
  go_wp2_with fail
  refine c.mono ?_
  rintro e w1 ⟨⟨b, rfl⟩, hw⟩
  obtain rfl := hw.symm
  clear c
  cases b
  · go_wp2
    go_ret
    exact ⟨rfl, Below.refl _ _⟩
  · go_wp2
    · go_ret
      exact ⟨rfl, ((Below.refl _ _).alloc (Nat.le_refl _) _).alloc (by simp) _⟩
    clear hmb hms hcb hcs hK hX
    have hbW : Below w.heap.size w ((w.alloc (Obj.cells (kArr zs) 5)).alloc (Obj.cells (tArr ts) 9)) := ((Below.refl _ _).alloc (Nat.le_refl _) _).alloc (by simp) _
    have hsW : ((w.alloc (Obj.cells (kArr zs) 5)).alloc (Obj.cells (tArr ts) 9)).heap.size = w.heap.size + 2 := by simp
    have hkW : ∀ i, i < n → ((w.alloc (Obj.cells (kArr zs) 5)).alloc (Obj.cells (tArr ts) 9)).cell? ⟨w.heap.size, i, none⟩ = some (.int .u8 (zs.getD i 0)) := fun i hi => by
      rw [World.cell?_alloc_past (hn := by simp)]; exact kCell w zs i (by omega)
    have htW : ∀ i, i < m → ((w.alloc (Obj.cells (kArr zs) 5)).alloc (Obj.cells (tArr ts) 9)).cell? ⟨w.heap.size + 1, i, none⟩ = some (.string (ts.getD i ByteArray.empty)) := fun i hi => by
      have := tCell (w.alloc (Obj.cells (kArr zs) 5)) ts i (by omega)
      rwa [World.size_alloc] at this
    generalize hW : (w.alloc (Obj.cells (kArr zs) 5)).alloc (Obj.cells (tArr ts) 9) = W at *
    have HS : Hid (W.heap.size = w.heap.size + 2) := hsW
    clear hW hsW
    go_loop [13, 14] (fun z i => ∃ k : Nat, k ≤ m ∧ i = .int .i64 k ∧ ∃ t : Int, z = .int .i64 t) (fun _ i => m - (intOf i).toNat)
    case atStart => exact ⟨0, Nat.zero_le _, rfl, _, rfl⟩
    case round =>
      obtain ⟨k, hk, rfl, t, rfl⟩ := hrel
      by_cases hlt : k < m
      · have hx := htW k hlt
        obtain ⟨s, hs⟩ : ∃ s, s = ts.getD k ByteArray.empty := ⟨_, rfl⟩
        rw [← hs] at hx
        clear hs htW hkW
        go_wp2
        · go_ret
          exact ⟨rfl, hbW⟩
        · go_round
          case rel => exact ⟨k + 1, by omega, by go_num, _, rfl⟩
          case measure => simp [intOf]; omega
      · have cr := reach_any (some ⟨w.heap.size, 0, none⟩) (some ⟨w.heap.size + 1, 0, none⟩) n n m m zs ts W hn (.inr ⟨_, 0, rfl, by rw [HS.out]; omega, by simpa using hkW⟩) (.inr ⟨_, 0, rfl, by rw [HS.out]; omega, by simpa using htW⟩)
        go_wp2_with fail
        refine cr.mono ?_
        rintro e w2 ⟨⟨b, rfl, hr⟩, hw2⟩
        obtain rfl := hw2.symm
        clear cr
        cases b
        · go_wp2
          go_ret
          exact ⟨rfl, hbW⟩
        · have R := hr rfl
          clear hr
          by_cases hp : 0 ≤ pos ∧ pos ≤ n ∧ 0 ≤ q ∧ q ≤ 9223372036854775807 - pos
          · obtain ⟨hp0, hp1, hq0, hq1⟩ := hp
            obtain ⟨p, rfl⟩ := Int.eq_ofNat_of_zero_le hp0
            obtain ⟨r, rfl⟩ := Int.eq_ofNat_of_zero_le hq0
            have hmn := R.eq
            subst hmn
            clear hlt hk hp0 hq0
            have HR : Hid (Reach zs ts m m) := R
            clear R
            have hKs : w.heap.size < W.heap.size := by rw [HS.out]; omega
            have hXs : w.heap.size + 1 < W.heap.size := by rw [HS.out]; omega
            have c7 := newParser_any w.heap.size 0 (w.heap.size + 1) 0 m m m zs ts p f W hzl hn hKs hXs (by simpa using hkW) (by simpa using htW)
            go_wp2_with fail
            refine c7.mono ?_
            clear c7
            rintro e w2 ⟨P, rfl, par2, hb2⟩
            have hPW : W.heap.size < P := par2.hT
            have c9 := zzPeekAt_any par2 r (by omega) (by omega)
            go_wp2_with fail
            refine c9.mono ?_
            clear c9
            rintro e w3 ⟨rfl, hb3⟩
            have par3 := par2.below hb3 par2.hP
            have hP2 : P < w2.heap.size := par2.hP
            have hb23 : Below W.heap.size W w3 := hb2.trans (hb3.mono (by omega))
            clear par2 hb2 hb3 hP2
            have hk3 : ∀ i, i < m → w3.cell? ⟨w.heap.size, i, none⟩ = some (.int .u8 (zs.getD i 0)) := fun i hi => (hb23.cell (p := ⟨w.heap.size, i, none⟩) hKs).trans (hkW i hi)
            have ht3 : ∀ i, i < m → w3.cell? ⟨w.heap.size + 1, i, none⟩ = some (.string (ts.getD i ByteArray.empty)) := fun i hi => (hb23.cell (p := ⟨w.heap.size + 1, i, none⟩) hXs).trans (htW i hi)
            have c8 := tokenAt_any w.heap.size (w.heap.size + 1) m m m m zs ts f (p + r) w3 hzl rfl hk3 ht3
            rw [show ((p + r : Nat) : Int) = (p : Int) + (r : Int) from by omega] at c8
            clear hkW htW
            go_wp2_with fail
            refine c8.mono ?_
            clear c8
            rintro e w4 ⟨rfl, hb4⟩
            have hP3 : P < w3.heap.size := par3.hP
            have par4 := par3.below hb4 par3.hP
            have hb34 : Below P w3 w4 := hb4.mono (by omega)
            have HB4 : Hid (Below w.heap.size w w4) := hbW.trans ((hb23.trans (hb34.mono (by omega))).mono (by omega))
            have HK4 : Hid (∀ i, i < m → w4.cell? ⟨w.heap.size, i, none⟩ = some (.int .u8 (zs.getD i 0))) := fun i hi => (hb34.cell (p := ⟨w.heap.size, i, none⟩) (show w.heap.size < P by omega)).trans (hk3 i hi)
            have HT4 : Hid (∀ i, i < m → w4.cell? ⟨w.heap.size + 1, i, none⟩ = some (.string (ts.getD i ByteArray.empty))) := fun i hi => (hb34.cell (p := ⟨w.heap.size + 1, i, none⟩) (show w.heap.size + 1 < P by omega)).trans (ht3 i hi)
            clear hk3 ht3 par3 hb4 hb34 hb23 hP3 hbW
            by_cases hrm : r ≤ m
            · have hrm' : decide (m < r) = false := decide_eq_false (by omega)
              have hrm2 : ¬ (m : Int) < (r : Int) := by omega
              go_wp2
              clear hrm2
              go_loopw [21] (fun i wr => ∃ j a : Nat, j ≤ r ∧ i = .int .i64 j ∧ Par wr P W.heap.size zs ts a f ∧ At zs ts f p j a ∧ Below P w4 wr) (fun i _ => r - (intOf i).toNat)
              case atStart => exact ⟨0, p, Nat.zero_le _, rfl, par4, ⟨by omega, .inl rfl⟩, Below.refl _ _⟩
              case round =>
                obtain ⟨j, a, hj, rfl, par, hat, hbr⟩ := hrel
                have hale := hat.le
                by_cases hlt : j < r
                · have c10 := zzNext_any par (by omega) (by omega)
                  have HN : Hid (At zs ts f p (j + 1) (adv zs f a)) := hat.next HR.out hzl
                  have hsm := hat.same
                  go_wp2_with fail
                  refine c10.mono ?_
                  clear c10
                  rintro e w5 ⟨rfl, par5, hb5⟩
                  have hbr5 := hbr.trans hb5
                  have c8 := tokenAt_any w.heap.size (w.heap.size + 1) m m m m zs ts f (p + j) w5 hzl rfl (fun i hi => (hbr5.cell (p := ⟨w.heap.size, i, none⟩) (show w.heap.size < P by omega)).trans (HK4.out i hi)) (fun i hi => (hbr5.cell (p := ⟨w.heap.size + 1, i, none⟩) (show w.heap.size + 1 < P by omega)).trans (HT4.out i hi))
                  rw [show ((p + j : Nat) : Int) = (p : Int) + (j : Int) from by omega, ← hsm.1, ← hsm.2] at c8
                  clear hsm hat par hbr hb5
                  go_wp2_with fail
                  refine c8.mono ?_
                  clear c8
                  rintro e w6 ⟨rfl, hb6⟩
                  have hP5 : P < w5.heap.size := par5.hP
                  have par6 := par5.below hb6 par5.hP
                  have hbr6 : Below P w4 w6 := hbr5.trans (hb6.mono (by omega))
                  clear par5 hb6 hbr5 hP5
                  go_wp2
                  go_roundw
                  case rel => exact ⟨j + 1, adv zs f a, by omega, by go_num, par6, HN.out, hbr6⟩
                  case measure => simp [intOf]; omega
                · have hfo := hat.fore (r := r) (by omega)
                  have c9 := zzPeekAt_any par 0 (by omega) (by omega)
                  rw [show ((0 : Nat) : Int) = 0 from rfl, Nat.add_zero, hfo.1, hfo.2] at c9
                  have hPr : P < wr.heap.size := par.hP
                  have HBr : Hid (Below w.heap.size w wr) := HB4.out.trans (hbr.mono (by omega))
                  clear hfo hat hbr par
                  go_wp2_with fail
                  refine c9.mono ?_
                  clear c9
                  rintro e w5 ⟨rfl, hb5⟩
                  have HB5 : Hid (Below w.heap.size w w5) := HBr.out.trans (hb5.mono (by omega))
                  clear hb5
                  go_wp2
                  go_ret
                  exact ⟨rfl, HB5.out⟩
            · have hrm' : (m : Int) < (r : Int) := by omega
              go_wp2
              go_loopw [21] (fun i wr => ∃ j a : Nat, j ≤ m ∧ i = .int .i64 j ∧ Par wr P W.heap.size zs ts a f ∧ At zs ts f p j a ∧ Below P w4 wr) (fun i _ => m - (intOf i).toNat)
              case atStart => exact ⟨0, p, Nat.zero_le _, rfl, par4, ⟨by omega, .inl rfl⟩, Below.refl _ _⟩
              case round =>
                obtain ⟨j, a, hj, rfl, par, hat, hbr⟩ := hrel
                have hale := hat.le
                by_cases hlt : j < m
                · have c10 := zzNext_any par (by omega) (by omega)
                  have HN : Hid (At zs ts f p (j + 1) (adv zs f a)) := hat.next HR.out hzl
                  have hsm := hat.same
                  go_wp2_with fail
                  refine c10.mono ?_
                  clear c10
                  rintro e w5 ⟨rfl, par5, hb5⟩
                  have hbr5 := hbr.trans hb5
                  have c8 := tokenAt_any w.heap.size (w.heap.size + 1) m m m m zs ts f (p + j) w5 hzl rfl (fun i hi => (hbr5.cell (p := ⟨w.heap.size, i, none⟩) (show w.heap.size < P by omega)).trans (HK4.out i hi)) (fun i hi => (hbr5.cell (p := ⟨w.heap.size + 1, i, none⟩) (show w.heap.size + 1 < P by omega)).trans (HT4.out i hi))
                  rw [show ((p + j : Nat) : Int) = (p : Int) + (j : Int) from by omega, ← hsm.1, ← hsm.2] at c8
                  clear hsm hat par hbr hb5
                  go_wp2_with fail
                  refine c8.mono ?_
                  clear c8
                  rintro e w6 ⟨rfl, hb6⟩
                  have hP5 : P < w5.heap.size := par5.hP
                  have par6 := par5.below hb6 par5.hP
                  have hbr6 : Below P w4 w6 := hbr5.trans (hb6.mono (by omega))
                  clear par5 hb6 hbr5 hP5
                  go_wp2
                  go_roundw
                  case rel => exact ⟨j + 1, adv zs f a, by omega, by go_num, par6, HN.out, hbr6⟩
                  case measure => simp [intOf]; omega
                · have hfo := hat.fore (r := r) (by omega)
                  have c9 := zzPeekAt_any par 0 (by omega) (by omega)
                  rw [show ((0 : Nat) : Int) = 0 from rfl, Nat.add_zero, hfo.1, hfo.2] at c9
                  have hPr : P < wr.heap.size := par.hP
                  have HBr : Hid (Below w.heap.size w wr) := HB4.out.trans (hbr.mono (by omega))
                  clear hfo hat hbr par
                  go_wp2_with fail
                  refine c9.mono ?_
                  clear c9
                  rintro e w5 ⟨rfl, hb5⟩
                  have HB5 : Hid (Below w.heap.size w w5) := HBr.out.trans (hb5.mono (by omega))
                  clear hb5
                  go_wp2
                  go_ret
                  exact ⟨rfl, HB5.out⟩
          · go_wp2_with fail
            all_goals go_ret
            all_goals exact ⟨rfl, hbW⟩

end Go.Proofs.Qxb6613939a
