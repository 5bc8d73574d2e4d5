import Derived.Test.Qxb6613939aF
import Derived.Laws.CopyOwn
namespace Go.Proofs.Qxb6613939a
open Go.ChangeShapes Go.WideShapes Go.ChangeAt Go.RowKit

def mkB (n : Nat) : Array Value := madeCells #[.int .u8 0] n
def mkS (n : Nat) : Array Value := madeCells #[.string ByteArray.empty] n
def kArr (zs : List Int) : Array Value := (zs.map (Value.int .u8)).toArray
def tArr (ts : List ByteArray) : Array Value := (ts.map Value.string).toArray

theorem Try.info5 : (Try.prog.info? 5).map (fun i => (i.zero, i.size, i.bytes)) = some (some (.int .u8 0), 1, 1) := by kernel_rfl
theorem Try.info9 : (Try.prog.info? 9).map (fun i => (i.zero, i.size, i.bytes)) = some (some (.string ByteArray.empty), 1, 16) := by kernel_rfl

theorem run_mkB (n : Nat) (hn : n ≤ 65536) (w : World) :
    (Instr.makeSlice 22 (.int .i64 (n : Int)) (.int .i64 (n : Int))).run Try.prog w = .ok (.slice (some ⟨w.heap.size, 0, none⟩) n n) (w.alloc (.cells (mkB n) 5)) := by
  obtain ⟨i, hi, hzz⟩ := Option.map_eq_some_iff.1 Try.info5
  simp only [Prod.mk.injEq] at hzz
  obtain ⟨hz, hs, hb⟩ := hzz
  have := run_make (P := Try.prog) w 22 5 i _ Try.underlying22 hi hz .i64 .i64 (n : Int) (n : Int) (by omega) (by omega) (by rw [hb]; omega) (by omega)
  rw [hs] at this
  simpa [mkB, Value.cells] using this
theorem run_mkS (n : Nat) (hn : n ≤ 65536) (w : World) :
    (Instr.makeSlice 23 (.int .i64 (n : Int)) (.int .i64 (n : Int))).run Try.prog w = .ok (.slice (some ⟨w.heap.size, 0, none⟩) n n) (w.alloc (.cells (mkS n) 9)) := by
  obtain ⟨i, hi, hzz⟩ := Option.map_eq_some_iff.1 Try.info9
  simp only [Prod.mk.injEq] at hzz
  obtain ⟨hz, hs, hb⟩ := hzz
  have := run_make (P := Try.prog) w 23 9 i _ Try.underlying23 hi hz .i64 .i64 (n : Int) (n : Int) (by omega) (by omega) (by rw [hb]; omega) (by omega)
  rw [hs] at this
  simpa [mkS, Value.cells] using this

theorem setRow_new (w : World) (c d : Array Value) (t : TypeId) : (w.alloc (.cells c t)).setRow w.heap.size d = w.alloc (.cells d t) := by
  obtain ⟨heap, tape, drawn, os, output⟩ := w
  have key : ((heap.push (.cells c t)).modify heap.size fun | .cells _ elem frozen => .cells d elem frozen | o => o) = heap.push (.cells d t) := by
    apply Array.ext
    · simp
    · intro i h1 h2
      simp only [Array.getElem_modify, Array.getElem_push]
      by_cases hi : heap.size = i
      · subst hi; simp
      · have : i < heap.size := by simp at h2; omega
        simp [hi, this]
  show World.mk ((heap.push (.cells c t)).modify heap.size fun | .cells _ elem frozen => .cells d elem frozen | o => o) tape drawn os output = World.mk (heap.push (.cells d t)) tape drawn os output
  rw [key]

theorem run_copyAny (T E n c0 : Nat) (K ko : Nat) (vs : List Value) (cur : Array Value) (w : World) (hT : Try.prog.underlying T = some (.slice E)) (hE : (Try.prog.info? E).map (·.size) = some 1) (hl : vs.length = n) (hcur : cur.size = n)
    (h1 : ∀ v ∈ vs, v.oneCell' = true) (hKs : K < w.heap.size) (hsrc : ∀ j v, vs[j]? = some v → w.cell? ⟨K, ko + j, none⟩ = some v) :
    (Builtin.copy_ #[T, T] 3 #[.slice (some ⟨w.heap.size, 0, none⟩) n n, .slice (some ⟨K, ko, none⟩) n c0]).run Try.prog (w.alloc (.cells cur E)) = .ok (.int .i64 (n : Int)) (w.alloc (.cells vs.toArray E)) := by
  have := run_copy_row (P := Try.prog) (w.alloc (.cells cur E)) T T 3 E w.heap.size 0 n n ⟨K, ko, none⟩ n c0 cur E vs hT hE (heap_alloc_new w _) (by simp [hl]) (fun j v hj => by
    rw [add_plain, World.cell?_alloc_past (hn := hKs)]; exact hsrc j v hj) (by simp [hl, hcur]) h1
  rw [this, setRow_new]
  have e : List.drop n cur.toList = [] := List.drop_eq_nil_of_le (by simp [hcur])
  simp [hl, e, goInt]

end Go.Proofs.Qxb6613939a
