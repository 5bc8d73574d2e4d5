import Derived.Test.Qxb6612937aDoorA
import Derived.LaidMore
import Derived.OpenShut
import Derived.Stop.Joined
import Derived.ReadAgain
namespace Go.Proofs.Qxb6612937aDoor
open Go.ChangeShapes Go.WideShapes Go.ChangeAt Go.RowKit

theorem own : ownKnob Tryd.prog.godebug = none := by kernel_rfl
/-- The listed variable, by her name in the given specification. -/
def opsName : String := Rows.fnOperationStringNamesEachOperationOnceSpec.vars.headD ""
theorem gOps : Tryd.prog.globalNamed opsName = some 0 := by kernel_rfl
theorem tOps : (Tryd.prog.globals[0]?).map (·.type) = some 29 := by kernel_rfl
theorem cells28 : Tryd.prog.cellsOf 28 = 5 := by kernel_rfl
theorem cells9 : Tryd.prog.cellsOf 9 = 1 := by kernel_rfl
theorem kids : Kids Tryd.prog (· < Tryd.prog.types.size) := kids_rows (by kernel_rfl) (by kernel_rfl)
theorem full : ∀ t e, t < Tryd.prog.types.size → Tryd.prog.underlying t = some (.slice e) → 0 < Tryd.prog.cellsOf e := slices_full_of Tryd.prog (by kernel_rfl)
theorem lt29 : 29 < Tryd.prog.types.size := of_decide_eq_true (by kernel_rfl)

/-- An entry of the table that reads as a struct whose first field is the text l: its first cell holds that text. -/
theorem cell_of {H : Type} {enc : TypeId × Value → H} {W : World} {base : Nat} {sp : Nat → Bool} {held : Bool} {fuel : Nat} {cs : List Value} {ds : List (DataW H)} {p : List MemPlace}
    (h : DataW.trod enc Tryd.prog W base sp held fuel 29 cs = some (.agg ds, p)) (i : Nat) (hi : i < 19) (l : List UInt8) (r : List (DataW H)) (hd : ds[i]? = some (.agg (.lit (.string l) :: r))) : cs[i * 5]? = some (.string ⟨l.toArray⟩) := by
  obtain ⟨xs, m, rfl, hx, hlen, hn, hel⟩ := DataW.trod_array Tryd.underlying29 h
  simp only [Prod.mk.injEq, DataW.agg.injEq] at hx
  have hy := hel i hi
  rw [cells28] at hy
  rw [hx.1, List.getElem?_map] at hd
  obtain ⟨y, hy1, hy2⟩ := Option.map_eq_some_iff.1 hd
  rw [hy1] at hy
  obtain ⟨ys, n, rfl, rfl, _, hyn, hf⟩ := DataW.trod_struct Tryd.underlying28 hy
  have h0 := hf 0 _ rfl
  simp only [DataW.agg.injEq] at hy2
  have hz : (ys.map (·.1))[0]? = some (.lit (.string l)) := by rw [hy2]; rfl
  rw [List.getElem?_map] at hz
  obtain ⟨z, hz1, hz2⟩ := Option.map_eq_some_iff.1 hz
  rw [hz1] at h0
  obtain ⟨s, hs1, rfl, _⟩ := DataW.trod_string Tryd.underlying9 h0
  simp only [DataW.lit.injEq, Lit.string.injEq] at hz2
  have e : s = ⟨l.toArray⟩ := by
    obtain ⟨d⟩ := s
    rw [← hz2]
  rw [← e]
  have := congrArg (·[0]?) hs1
  simpa [cells9, List.getElem?_take, List.getElem?_drop] using this

theorem parts_at (i : Nat) (hi : i < 19) : ∃ r, (partsOf Rows.laid_example_com_mlinzi_mlinzi_internal_policy_operations)[i]? = some (.agg (.lit (.string (names.getD i [])) :: r)) := by
  have h : i = 0 ∨ i = 1 ∨ i = 2 ∨ i = 3 ∨ i = 4 ∨ i = 5 ∨ i = 6 ∨ i = 7 ∨ i = 8 ∨ i = 9 ∨ i = 10 ∨ i = 11 ∨ i = 12 ∨ i = 13 ∨ i = 14 ∨ i = 15 ∨ i = 16 ∨ i = 17 ∨ i = 18 := by omega
  rcases h with rfl | rfl | rfl | rfl | rfl | rfl | rfl | rfl | rfl | rfl | rfl | rfl | rfl | rfl | rfl | rfl | rfl | rfl | rfl
  all_goals exact ⟨_, rfl⟩

/-- WHAT THE CONDITION GIVES THE WALK: each name's cell. -/
theorem of_laid {W : World} (h : laidMetH Tryd.prog Rows.fnOperationStringNamesEachOperationOnceRow.laid W) : ∀ k, k ≤ 18 → W.cell? ⟨0, k * 5, none⟩ = some (.string (nm k)) := by
  rw [MakeChecks.laidMetH_plain _ _ _ (by kernel_rfl)] at h
  obtain ⟨ps, ⟨g0, t0, cs0, f0, p0, q0, hg0, ht0, hv0, hd0, _, _⟩, _, _⟩ := h
  obtain rfl := Option.some.inj (gOps.symm.trans hg0)
  obtain rfl := Option.some.inj (tOps.symm.trans ht0)
  intro k hk
  obtain ⟨r, hr⟩ := parts_at k (by omega)
  have hc := cell_of (ds := partsOf Rows.laid_example_com_mlinzi_mlinzi_internal_policy_operations) hd0 k (by omega) _ r hr
  have := World.var?_cell hg0 hv0 (k * 5)
  rw [this]
  simpa [nm] using hc

/-- The door's own heap meets the condition. -/
theorem door_met (os : Os) (args : Array Value) : laidMetH Tryd.prog Rows.fnOperationStringNamesEachOperationOnceRow.laid ((World.doorLaid Tryd.prog 32 os).forCall (fun _ _ => 0) ⟨#[], args, []⟩).memory :=
  laidMetH_of_parts3 (fuel := 8) (laidMet_of_run' 8 (by kernel_rfl) (by kernel_rfl)) (by kernel_rfl) (by kernel_rfl)

set_option maxRecDepth 100000 in
theorem lifted (os : Os) (started : os.Started) (H : Type) (enc : TypeId × Value → H) :
    ReturnsInHanded {} Tryd.checked os 3 .any (fun w args => (Rows.fnOperationStringNamesEachOperationOnceSpec.pre enc Tryd.prog Tryd.f3 [] false w args ∧ laidMetH Tryd.prog Rows.fnOperationStringNamesEachOperationOnceRow.laid w) ∧ sizedMet enc Tryd.prog Tryd.f3 (OpenSpec.ofChange Rows.fnOperationStringNamesEachOperationOnceSpec) false w args)
      (Rows.fnOperationStringNamesEachOperationOnceSpec.post enc Tryd.prog Tryd.f3 false true false false) := by
  refine returnsInHanded_of_change_and (C := Tryd.checked) (X := fun w _ => laidMetH Tryd.prog Rows.fnOperationStringNamesEachOperationOnceRow.laid w) (fun _ _ _ hh h => h.of_heap hh) own started (by kernel_rfl) Tryd.func3
    (ChangeSpec.witness_shaped (enc := enc) (C := Tryd.checked) (os := os) (X := fun w _ => laidMetH Tryd.prog Rows.fnOperationStringNamesEachOperationOnceRow.laid w) false (World.doorLaid Tryd.prog 32 os) #[.int .u8 0, .int .u8 0] 8 rfl (World.shaped_of_RefB (by kernel_rfl) (by kernel_rfl)) (by kernel_rfl) (by kernel_rfl) (by kernel_rfl) (door_met os _)) ?_
  intro W base args ds gs before hval0 hW _ _ hL _
  have hval : ∀ (j : Nat) t v, Tryd.f3.params[j]? = some t → args[j]? = some v → Value.okWide Tryd.prog W .any base t v := hval0
  have hW' := hW
  obtain ⟨p, q, hA0, hV0, rfl, hfz, hnd⟩ := hW
  have hA : DataW.TrodAll enc Tryd.prog W 0 (fun _ => true) true Tryd.f3.params.toList args.toList ds p := hA0
  have hV : DataW.TrodVars enc Tryd.prog W (fun _ => true) [opsName] gs q := hV0
  rw [Tryd.params3] at hA hval
  obtain ⟨v0, v1, d0, d1, p0, p1, rfl, rfl, rfl, h0, h1⟩ := trodAll_two hA
  obtain ⟨a, rfl, rfl, rfl, w0⟩ := open_int Tryd.underlying5 (hval 0 5 v0 rfl rfl) h0
  obtain ⟨b, rfl, rfl, rfl, w1⟩ := open_int Tryd.underlying5 (hval 1 5 v1 rfl rfl) h1
  obtain ⟨g, t, cs, fuel, d, p', rfl, hg, ht, hvar, hd, rfl⟩ := trodVars_one hV
  obtain rfl := Option.some.inj (gOps.symm.trans hg)
  obtain rfl := Option.some.inj (tOps.symm.trans ht)
  clear hA0 hV0 hval0
  have hvars : ∀ sp : Nat → Bool, (∀ x ∈ MemPlace.row ⟨0, 0, none⟩ cs.size ++ p', sp x.block = true) → DataW.TrodVars enc Tryd.prog W sp [opsName] [d] (MemPlace.row ⟨0, 0, none⟩ cs.size ++ p') := fun sp hsp =>
    trodVars_mk1 hg ht hvar (DataW.trod_respare kids full fuel 29 cs.toList (d, p') lt29 hd (fun x hx => hsp x (List.mem_append_right _ hx)))
  have hcells := of_laid hL
  have walk : Calls Tryd.prog 3 #[.int .u8 a, .int .u8 b] W fun e w' => e = .returned (.bool true) ∧ w' = W := by
    have ba := bounds_u8 w0
    have bb := bounds_u8 w1
    by_cases hb : 18 < a ∨ 18 < b
    · exact law_out a b hb W
    · obtain ⟨i, rfl⟩ := Int.eq_ofNat_of_zero_le ba.1
      obtain ⟨j, rfl⟩ := Int.eq_ofNat_of_zero_le bb.1
      exact law_in i j (by omega) (by omega) W hcells
  refine walk.mono fun e W' ⟨he, hw⟩ => ?_
  subst he
  obtain rfl := hw.symm
  exact ⟨_, rfl, post_of_same (pa := []) hW' (fun _ _ _ => trodAll_mk1 (shut_bool Tryd.underlying4 true)) (fun sp _ => trodAll_mk2 (shut_int Tryd.underlying5 w0) (shut_int Tryd.underlying5 w1)) (fun sp hsp => hvars sp hsp) (by simp)
    (World.keptBut_refl _ _) (fun _ => rfl) (ok_one (by kernel_rfl) rfl (okWide_bool_mk Tryd.underlying4 _))⟩

theorem over : Rows.FnOperationStringNamesEachOperationOnceSaid :=
  OpenClaim.holds_of_wide 3 Tryd.f3 rfl rfl rfl rfl rfl rfl rfl ⟨rfl, rfl, rfl, rfl, rfl⟩ rfl rfl rfl rfl rfl (by kernel_rfl) Tryd.func3 (by kernel_rfl)
    (of_decide_eq_true (by kernel_rfl)) (by unfold Func.isWrapper; first | (rw [if_pos (by decide +kernel)]; kernel_rfl) | (rw [if_neg (by decide +kernel)]; exact ⟨rfl, rfl⟩))
    (fun os started H enc _ => lifted os started H enc)

end Go.Proofs.Qxb6612937aDoor
