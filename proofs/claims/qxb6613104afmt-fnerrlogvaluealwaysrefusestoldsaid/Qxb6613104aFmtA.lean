import Derived.Test.Qxb6613104aFmtRows
import Derived.WalkKit
import Derived.WalkSpells
import Derived.Stop.CallBack
import Derived.Stop.IfaceNil
namespace Go.Proofs.Qxb6613104aFmt
open Go.RowKit Go.Extern.Stop Go.Stop Go.Extern

/-- The format, as the program's text has it. -/
def fmtL : List UInt8 := [116, 104, 101, 32, 118, 97, 108, 117, 101, 32, 37, 113, 32, 105, 115, 32, 110, 111, 110, 101, 32, 111, 102, 32, 110, 105, 108, 44, 32, 97, 32, 54, 52, 45, 98, 105, 116, 32, 105, 110, 116, 101, 103, 101, 114, 44, 32, 97, 32, 112, 97, 105, 114, 32, 91, 60, 101, 120, 112, 101, 99, 116, 101, 100, 62, 32, 60, 110, 101, 119, 62, 93, 44, 32, 58, 116, 105, 109, 101, 100, 45, 111, 117, 116, 32, 97, 110, 100, 32, 97, 32, 116, 117, 112, 108, 101, 32, 91, 60, 107, 101, 121, 62, 32, 60, 118, 97, 108, 117, 101, 62, 93, 32, 111, 102, 32, 111, 110, 101, 32, 111, 102, 32, 116, 104, 111, 115, 101]

theorem call29 (args : Array Value) (w : World) : (callFunc 29 args).run Tryf.prog w = ((FmtStop.errorf #[9, 49] #[27] args).run Tryf.prog w).andThen fun v w' => .ok (.value v) w' :=
  run_callFunc_extern Tryf.func29 (by kernel_rfl) (by kernel_rfl) (by kernel_rfl) (by kernel_rfl) args w
theorem guardF (name : String) (w : World) : (FmtStop.guard name).run Tryf.prog w = .ok () w := by kernel_rfl
theorem fmt0 : FmtStop.printed? ⟨fmtL.toArray⟩ 1 = some [(0, 113, false)] := by kernel_rfl
theorem fmt0r (w : World) : (FmtDoors.printed ⟨fmtL.toArray⟩ 1).run Tryf.prog w = .ok [(0, 113, false)] w := by kernel_rfl
def shape9 : List UInt8 := [12, 6, 0, 0, 0, 0, 0, 0, 0, 115, 116, 114, 105, 110, 103]
theorem op9 (name : String) (x : ByteArray) (w : World) : (FmtStop.operand name false 113 false (.iface 9 (.string x))).run Tryf.prog w = .ok (shape9, FmtStop.pack x.data.toList) w := by kernel_rfl
theorem op9w (name : String) (x : ByteArray) (w : World) : (FmtStop.operand name true 113 false (.iface 9 (.string x))).run Tryf.prog w = .ok (shape9, FmtStop.pack x.data.toList) w := by kernel_rfl
theorem ptr59 (w : World) : (FmtStop.ptrTo "errors.errorString").run Tryf.prog w = .ok 59 w := by kernel_rfl
theorem elem59 (w : World) : (elemOf 59).run Tryf.prog w = .ok 61 w := by kernel_rfl
theorem isError59 (w : World) : (FmtDoors.textMethod 59 "Error").run Tryf.prog w = .ok true w := by kernel_rfl

attribute [local go_sem] call29 guardF fmt0 fmt0r op9 op9w ptr59 elem59 isError59

set_option maxRecDepth 100000 in
set_option maxHeartbeats 800000 in
theorem errorf_any (F : Interp) (s : ByteArray) (b : Nat) (w : World) (hF : F.answers w.tape) (hc : w.cell? ⟨b, 0, none⟩ = some (.iface 9 (.string s))) :
    Calls Tryf.prog 24 #[.string ⟨fmtL.toArray⟩, .slice (some ⟨b, 0, none⟩) 1 1] w fun e w' => e = .returned (.iface 59 (.pointer (some ⟨w.heap.size, 0, none⟩))) ∧ Grown w w' := by
  have hF' := answers_open hF
  go_enter Tryf.func24, Tryf.ntmps24
  go_wp2
  go_ret
  exact ⟨rfl, ((Grown.refl _).alloc _ _).drew⟩

theorem grown_trans {a b c : World} (h : Grown a b) (k : Grown b c) : Grown a c :=
  ⟨World.keptBut_trans h.1 k.1, fun x => (k.2.1 x).trans (h.2.1 x), Nat.le_trans h.2.2 k.2.2⟩

set_option maxRecDepth 100000 in
set_option maxHeartbeats 800000 in
theorem errLog_any (F : Interp) (s : ByteArray) (w : World) (hF : F.answers w.tape) :
    Calls Tryf.prog 21 #[.string s] w fun e w' => e = .returned (.iface 59 (.pointer (some ⟨w.heap.size + 1, 0, none⟩))) ∧ Grown w w' := by
  have k := errorf_any F s w.heap.size (w.alloc (.cells #[.iface 9 (.string s)] 20)) hF (by simp)
  rw [World.size_alloc] at k
  go_enter Tryf.func21, Tryf.ntmps21
  go_wp2_with fail
  refine k.mono ?_
  clear k
  rintro e w1 ⟨rfl, hg⟩
  go_wp2
  go_ret
  exact ⟨rfl, grown_trans ((Grown.refl _).alloc _ _) hg⟩

set_option maxHeartbeats 800000 in
theorem zzErrLog_any (F : Interp) (s : ByteArray) (w : World) (hF : F.answers w.tape) :
    Calls Tryf.prog 18 #[.string s] w fun e w' => e = .returned (.iface 59 (.pointer (some ⟨w.heap.size + 1, 0, none⟩))) ∧ Grown w w' := by
  have k := errLog_any F s w hF
  go_enter Tryf.func18, Tryf.ntmps18
  go_wp2_with fail
  refine k.mono ?_
  clear k
  rintro e w1 ⟨rfl, hg⟩
  go_wp2
  go_ret
  exact ⟨rfl, hg⟩

/-- It returned a bool. -/
def IsB (e : Ending) : Prop := ∃ b, e = .returned (.bool b)

set_option maxHeartbeats 400000 in
theorem zzBytes_any (s : ByteArray) (h : s.size ≤ maxLen) (w : World) : Calls Tryf.prog 17 #[.string s] w fun e w' => IsB e ∧ w' = w := by
  unfold maxLen at h
  go_enter Tryf.func17, Tryf.ntmps17
  go_wp2
  all_goals go_ret
  all_goals exact ⟨⟨_, rfl⟩, rfl⟩

set_option maxHeartbeats 800000 in
/-- The law's walk, whatever the input, whatever fmt answers. -/
theorem law_any (F : Interp) (s : ByteArray) (h : s.size ≤ maxLen) (w : World) (hF : F.answers w.tape) :
    Calls Tryf.prog 6 #[.string s] w fun e w' => e = .returned (.bool true) ∧ Grown w w' := by
  have k := zzBytes_any s h w
  have ke := zzErrLog_any F s w hF
  unfold maxLen at h
  by_cases hb : (1048576 : Int) < (s.size : Int)
  · clear ke
    go_enter Tryf.func6, Tryf.ntmps6
    go_wp2_with fail
    refine k.mono ?_
    clear k
    rintro e w1 ⟨⟨v, rfl⟩, hw⟩
    obtain rfl := hw.symm
    cases v
    · go_wp2
      go_ret
      exact ⟨rfl, Grown.refl _⟩
    · go_wp2
      go_ret
      exact ⟨rfl, Grown.refl _⟩
  · go_enter Tryf.func6, Tryf.ntmps6
    go_wp2_with fail
    refine k.mono ?_
    clear k
    rintro e w1 ⟨⟨v, rfl⟩, hw⟩
    obtain rfl := hw.symm
    cases v
    · go_wp2
      go_ret
      exact ⟨rfl, Grown.refl _⟩
    · go_wp2_with fail
      refine ke.mono ?_
      clear ke
      rintro e w1 ⟨rfl, hg⟩
      go_wp2
      go_ret
      exact ⟨rfl, hg⟩

end Go.Proofs.Qxb6613104aFmt
