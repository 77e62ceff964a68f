/- Part of the proofs of laws.FnIsoTree and laws.FnIsoAt: lemmas and contracts of functions that the two laws reach, each under the hypotheses that its own statement names. -/
import Derived.Test.YtfppgplboomdbaaGreatDoorMPart26
namespace Go.Proofs.YtfppgplboomdbaaGreatDoor
open Go.ChangeShapes Go.WideShapes Go.ChangeAt Go.RowKit Go.Deep

set_option maxRecDepth 100000 in
theorem at_contract (H : Type) (enc : TypeId × Value → H) (F : Stop.Interp) (W : World) (base : Nat) (args : Array Value) (ds gs : List (DataW H)) (before : List MemPlace)
    (hval0 : ∀ (j : Nat) t v, Tryz.f4.params[j]? = some t → args[j]? = some v → Value.okWide Tryz.prog W .any base t v)
    (hW : DataW.Whole enc Tryz.prog Tryz.f4.params.toList Rows.fnIsoAtSpec.vars false W args.toList ds gs before) (hL : laidMetH Tryz.prog Lst W) :
    Calls Tryz.prog 4 args W fun e W' => ∃ v, e = .returned v ∧ ((OpenSpec.ofChange Rows.fnIsoAtSpec).at F).post enc Tryz.prog Tryz.f4 false true false false W args v W' := by
  have hval : ∀ (j : Nat) t v, Tryz.f4.params[j]? = some t → args[j]? = some v → Value.okWide Tryz.prog W .any base t v := hval0
  have hW' := hW
  obtain ⟨p, q, hA0, hV0, rfl, _, _⟩ := hW
  have hA : DataW.TrodAll enc Tryz.prog W 0 (fun _ => true) true Tryz.f4.params.toList args.toList ds p := hA0
  rw [Tryz.params4] at hA hval
  obtain ⟨v0, v1, v2, v3, d0, d1, d2, d3, p0, p1, p2, p3, rfl, rfl, rfl, h0, h1, h2, h3⟩ := trodAll_four hA
  obtain ⟨rfl, rfl⟩ := trodVars_none hV0
  obtain ⟨a0, len, cap, rfl⟩ := okWide_slice Tryz.underlying22 (hval 0 22 v0 rfl rfl)
  obtain ⟨x, rfl, rfl, rfl, wx⟩ := open_int Tryz.underlying5 (hval 1 5 v1 rfl rfl) h1
  obtain ⟨y, rfl, rfl, rfl, wy⟩ := open_int Tryz.underlying35 (hval 2 35 v2 rfl rfl) h2
  obtain ⟨z, rfl, rfl, rfl, wz⟩ := open_int Tryz.underlying35 (hval 3 35 v3 rfl rfl) h3
  have h0k := h0
  obtain ⟨fuel0, hf0⟩ := h0
  clear hA0 hV0 hval0
  simp only [List.append_nil] at hW'
  have hlt : ∀ y ∈ p0, y.block < W.heap.size := fun y hy => hW'.lt y (by simpa using hy)
  obtain ⟨fs, hfl, hfa, hbig, hlm⟩ := open_files hf0
  obtain ⟨hx0, hx1⟩ := u8_bd wx
  obtain ⟨hy0, hy1⟩ := u16_bd wy
  obtain ⟨hz0, hz1⟩ := u16_bd wz
  obtain ⟨ea, heof⟩ := eof_of_laid hL
  have htabs := tabs_of_laid hL
  have h6 := size_of_laid hL
  unfold maxLen at hlm
  have hmain := fnIsoAt_any a0 cap fs x y z ea W hfa hbig (by omega) hx0 hx1 hy0 hy1 hz0 hz1 heof htabs h6
  rw [hfl] at hmain
  refine hmain.mono ?_
  rintro e W' ⟨rfl, bel⟩
  refine ⟨_, rfl, _, _, _, [], p0, [], hW', ?_, ?_, ?_, bel.frame _, fun h => by cases h⟩
  · exact trodAll_mk1 (shut_bool Tryz.underlying4 _)
  · have h := trodAll_mk4 (Below.trod Tryz.laidOut (by kernel_rfl) (of_decide_eq_true (by kernel_rfl)) h0k bel hlt) (shut_int (enc := enc) (P := Tryz.prog) (w := W') (base := 0) (spare := fun b => decide (b < W.heap.size)) (held := true) Tryz.underlying5 wx) (shut_int (enc := enc) (P := Tryz.prog) (w := W') (base := 0) (spare := fun b => decide (b < W.heap.size)) (held := true) Tryz.underlying35 wy) (shut_int (enc := enc) (P := Tryz.prog) (w := W') (base := 0) (spare := fun b => decide (b < W.heap.size)) (held := true) Tryz.underlying35 wz)
    simp only [List.append_nil] at h
    exact h
  · rfl
theorem at_witness (os : Os) {H : Type} (enc : TypeId × Value → H) :
    (OpenSpec.ofChange Rows.fnIsoAtSpec).preRow enc Tryz.prog Tryz.f4 Rows.fnIsoAtRow.domain false Lst ((laidWorld os).forCall (fun _ _ => 0) ⟨#[], #[.slice none 0 0, .int .u8 0, .int .u16 0, .int .u16 0], []⟩).memory #[.slice none 0 0, .int .u8 0, .int .u16 0, .int .u16 0] := by
  have hw : (DataW.whole enc Tryz.prog ((laidWorld os).forCall (fun _ _ => 0) ⟨#[], #[.slice none 0 0, .int .u8 0, .int .u16 0, .int .u16 0], []⟩).memory Tryz.f4.params.toList Rows.fnIsoAtSpec.vars false #[Value.slice none 0 0, Value.int .u8 0, Value.int .u16 0, Value.int .u16 0].toList 8).map (fun x => (x.1, x.2.1)) =
      some ([.nil, .lit (.int .u8 0), .lit (.int .u16 0), .lit (.int .u16 0)], []) := by kernel_rfl
  obtain ⟨⟨x1, x2, x3⟩, hx, hx1⟩ := Option.map_eq_some_iff.1 hw
  simp only [Prod.mk.injEq] at hx1
  obtain ⟨rfl, rfl⟩ := hx1
  exact OpenSpec.preRow_of_cond 8 hx (by kernel_rfl) (fun k hk => by cases hk) (by kernel_rfl) (laid_met os _)
set_option maxRecDepth 100000 in
theorem at_lifted (os : Os) (started : os.Started) (H : Type) (enc : TypeId × Value → H) (F : Stop.Interp) :
    ReturnsInHanded {} Tryz.checked os 4 .any ((OpenSpec.ofChange Rows.fnIsoAtSpec).preRow enc Tryz.prog Tryz.f4 Rows.fnIsoAtRow.domain false Rows.fnIsoAtRow.laid) (((OpenSpec.ofChange Rows.fnIsoAtSpec).at F).post enc Tryz.prog Tryz.f4 false true false false) := by
  refine returnsInHanded_of_row (C := Tryz.checked) (s := OpenSpec.ofChange Rows.fnIsoAtSpec) Tryz.own started (by kernel_rfl) Tryz.func4
    (witness_row_atRef (enc := enc) (C := Tryz.checked) false (laidWorld os) #[.slice none 0 0, .int .u8 0, .int .u16 0, .int .u16 0] rfl (wit_vars os _) (by kernel_rfl) (by kernel_rfl) (at_witness os enc)) ?_
  intro W base args ds gs before hval hW _ _ _ hL _ _
  exact at_contract H enc F W base args ds gs before hval hW hL

end Go.Proofs.YtfppgplboomdbaaGreatDoor
