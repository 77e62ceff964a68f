/- Part of the proofs of laws.FnIsoTree and laws.FnIsoAt: lemmas and contracts of functions that the two laws reach, each under the hypotheses that its own statement names. -/
import Derived.Test.YtfppgplboomdbaaGreatDoorMZ0
namespace Go.Proofs.YtfppgplboomdbaaGreatDoor
open Go.ChangeShapes Go.WideShapes Go.ChangeAt Go.RowKit Go.Deep

theorem list_of {α : Type} (Q : Nat → α → Prop) : ∀ n : Nat, (∀ i, i < n → ∃ x, Q i x) → ∃ l : List α, l.length = n ∧ ∀ (i : Nat) (x : α), l[i]? = some x → Q i x
  | 0, _ => ⟨[], rfl, fun i x h => by simp at h⟩
  | n + 1, h => by
    obtain ⟨l, hl, hq⟩ := list_of Q n (fun i hi => h i (by omega))
    obtain ⟨x, hx⟩ := h n (by omega)
    refine ⟨l ++ [x], by simp [hl], fun i y hy => ?_⟩
    by_cases hi : i < n
    · rw [List.getElem?_append_left (by omega)] at hy
      exact hq i y hy
    · have e : i = n := by
        have := (List.getElem?_eq_some_iff.1 hy).1
        simp [hl] at this
        omega
      subst e
      rw [List.getElem?_append_right (by omega), hl, Nat.sub_self] at hy
      simp at hy
      subst hy
      exact hx
section
variable {H : Type} {enc : TypeId × Value → H} {P : Program} {w : World} {base : Nat} {spare : Nat → Bool} {held : Bool}
/-- A slice of structs of one-cell fields, opened. -/
theorem open_slice_fields {t e : TypeId} {fs : Array Field} {fuel : Nat} {cs : List Value} {x : DataW H × List MemPlace} (ht : P.underlying t = some (.slice e)) (he : P.underlying e = some (.struct fs))
    (hone : oneCellFields P fs = true) (hC : P.cellsOf e = fs.size) (h : DataW.trod enc P w base spare held fuel t cs = some x) :
    (cs = [.slice none 0 0] ∧ x = (.nil, [])) ∨
    ∃ (a : Addr) (len cap m : Nat), cs = [.slice (some a) len cap] ∧ len ≤ cap ∧ cap ≤ maxLen ∧ m = (if spare a.block then cap else len) ∧
      ∀ i, i < m → ∃ n : Nat, ∀ (j : Nat) (f : Field), fs[j]? = some f → ∃ (v : Value) (y : DataW H × List MemPlace), w.cell? (a.add (i * fs.size + j)) = some v ∧ DataW.trod enc P w base spare held n f.type [v] = some y := by
  rcases open_slice ht h with h0 | ⟨a, len, cap, m, n, D, Pl, hcs, hb, hl, hm, hmm, hx, hi⟩
  · exact .inl h0
  · refine .inr ⟨a, len, cap, m, hcs, hl, hm, hmm, fun i him => ?_⟩
    obtain ⟨cs', hc, ht'⟩ := hi i him
    rw [hC] at hc
    obtain ⟨ys, n', hn', hy, hlen, hyl, hf⟩ := DataW.trod_struct he ht'
    obtain ⟨_, hcl, hat⟩ := World.cells?_some hc
    refine ⟨n', fun j f hj => ?_⟩
    obtain ⟨ho, hk⟩ := hone_of hone j f hj
    have hjl : j < fs.size := (Array.getElem?_eq_some_iff.1 hj).1
    have hcell := hat j hjl
    have hv : cs'[j]? = some (cs'[j]'(by omega)) := List.getElem?_eq_getElem (by omega)
    have h1 := hf j f hj
    rw [ho, hk] at h1
    have hone' : (cs'.drop j).take 1 = [cs'[j]'(by omega)] := by
      rw [List.drop_eq_getElem_cons (by omega)]
      rfl
    rw [hone'] at h1
    have hys : ys[j]? = some (ys[j]'(by omega)) := List.getElem?_eq_getElem (by omega)
    refine ⟨_, _, ?_, h1.trans hys⟩
    rw [← Go.Deep.add_add, hcell, hv]
end
theorem file_info : ∃ fs : Array Field, Tryz.prog.underlying 38 = some (.struct fs) ∧ oneCellFields Tryz.prog fs = true ∧ fs.size = 8 ∧ (fs[0]?).map (·.type) = some 9 ∧ (fs[1]?).map (·.type) = some 4 ∧ (fs[2]?).map (·.type) = some 9 ∧ (fs[3]?).map (·.type) = some 9 ∧ (fs[4]?).map (·.type) = some 36 ∧ (fs[5]?).map (·.type) = some 36 ∧ (fs[6]?).map (·.type) = some 36 ∧ (fs[7]?).map (·.type) = some 2 :=
  ⟨_, Tryz.underlying38, by kernel_rfl, by kernel_rfl, by kernel_rfl, by kernel_rfl, by kernel_rfl, by kernel_rfl, by kernel_rfl, by kernel_rfl, by kernel_rfl, by kernel_rfl⟩
theorem cells38 : Tryz.prog.cellsOf 38 = 8 := by kernel_rfl
theorem fld {fs : Array Field} {j : Nat} {t : TypeId} (h : (fs[j]?).map (·.type) = some t) : ∃ f, fs[j]? = some f ∧ f.type = t := by
  cases hf : fs[j]? with
  | none => rw [hf] at h; cases h
  | some f => rw [hf] at h; exact ⟨f, rfl, by simpa using h⟩
theorem open_files {H : Type} {enc : TypeId × Value → H} {W : World} {a0 : Option Addr} {len cap fuel : Nat} {x : DataW H × List MemPlace} (hf : DataW.trod enc Tryz.prog W 0 (fun _ => true) true fuel 22 [.slice a0 len cap] = some x) :
    ∃ fs : List FileD, fs.length = len ∧ FilesAt W W.heap.size a0 fs ∧ (∀ (k : Nat) (f : FileD), fs[k]? = some f → FBig f) ∧ len ≤ maxLen := by
  obtain ⟨fds, hu, hone, hsz, t0, t1, t2, t3, t4, t5, t6, t7⟩ := file_info
  rcases open_slice_fields Tryz.underlying22 hu hone (by rw [cells38, hsz]) hf with ⟨hcs, _⟩ | ⟨a, len', cap', m, hcs, hl, hm, hmm, hall⟩
  · injection hcs with h1 _
    injection h1 with e1 e2 e3
    subst e1 e2 e3
    exact ⟨[], rfl, (fun h => absurd h (by decide)), (fun k f h => by simp at h), Nat.zero_le _⟩
  · injection hcs with h1 _
    injection h1 with e1 e2 e3
    subst e1 e2 e3
    rw [if_pos rfl] at hmm
    obtain ⟨fs, hfl, hfa⟩ := list_of (fun i (f : FileD) => FBig f ∧ ∀ (j : Nat) (v : Value), (fcells f)[j]? = some v → W.cell? (a.add (i * 8 + j)) = some v) len (fun i hi => by
      obtain ⟨n, hj⟩ := hall i (by omega)
      rw [hsz] at hj
      obtain ⟨f0, g0, u0⟩ := fld t0
      obtain ⟨f1, g1, u1⟩ := fld t1
      obtain ⟨f2, g2, u2⟩ := fld t2
      obtain ⟨f3, g3, u3⟩ := fld t3
      obtain ⟨f4, g4, u4⟩ := fld t4
      obtain ⟨f5, g5, u5⟩ := fld t5
      obtain ⟨f6, g6, u6⟩ := fld t6
      obtain ⟨f7, g7, u7⟩ := fld t7
      obtain ⟨v0, y0, c0, r0⟩ := hj 0 f0 g0
      obtain ⟨v1, y1, c1, r1⟩ := hj 1 f1 g1
      obtain ⟨v2, y2, c2, r2⟩ := hj 2 f2 g2
      obtain ⟨v3, y3, c3, r3⟩ := hj 3 f3 g3
      obtain ⟨v4, y4, c4, r4⟩ := hj 4 f4 g4
      obtain ⟨v5, y5, c5, r5⟩ := hj 5 f5 g5
      obtain ⟨v6, y6, c6, r6⟩ := hj 6 f6 g6
      obtain ⟨v7, y7, c7, r7⟩ := hj 7 f7 g7
      rw [u0] at r0; rw [u1] at r1; rw [u2] at r2; rw [u3] at r3
      rw [u4] at r4; rw [u5] at r5; rw [u6] at r6; rw [u7] at r7
      obtain ⟨s0, q0, _, b0⟩ := DataW.trod_string Tryz.underlying9 r0
      obtain ⟨s1, q1, _⟩ := DataW.trod_bool Tryz.underlying4 r1
      obtain ⟨s2, q2, _, b2⟩ := DataW.trod_string Tryz.underlying9 r2
      obtain ⟨s3, q3, _, b3⟩ := DataW.trod_string Tryz.underlying9 r3
      obtain ⟨s4, q4, _, _⟩ := DataW.trod_int Tryz.underlying36 r4
      obtain ⟨s5, q5, _, _⟩ := DataW.trod_int Tryz.underlying36 r5
      obtain ⟨s6, q6, _, _⟩ := DataW.trod_int Tryz.underlying36 r6
      obtain ⟨s7, q7, _, _⟩ := DataW.trod_int Tryz.underlying2 r7
      injection q0 with q0 _
      injection q1 with q1 _
      injection q2 with q2 _
      injection q3 with q3 _
      injection q4 with q4 _
      injection q5 with q5 _
      injection q6 with q6 _
      injection q7 with q7 _
      subst q0 q1 q2 q3 q4 q5 q6 q7
      unfold maxLen at b0 b2 b3
      refine ⟨⟨s0, s1, s2, s3, s4, s5, s6, s7⟩, ⟨by show s0.size ≤ _; omega, by show s2.size ≤ _; omega, by show s3.size ≤ _; omega⟩, fun j v hv => ?_⟩
      match j, hv with
      | 0, hv => cases hv; exact c0
      | 1, hv => cases hv; exact c1
      | 2, hv => cases hv; exact c2
      | 3, hv => cases hv; exact c3
      | 4, hv => cases hv; exact c4
      | 5, hv => cases hv; exact c5
      | 6, hv => cases hv; exact c6
      | 7, hv => cases hv; exact c7
      | j + 8, hv => simp [fcells] at hv)
    refine ⟨fs, hfl, fun h0 => ?_, fun k f h => (hfa k f h).1, by omega⟩
    obtain ⟨g, o, spot⟩ := a
    obtain ⟨f0, hf0⟩ : ∃ f0, fs[0]? = some f0 := ⟨fs[0]'h0, List.getElem?_eq_getElem _⟩
    have hc := (hfa 0 f0 hf0).2 0 _ rfl
    have hspot : spot = none := by simpa [Addr.add] using World.cell?_spot hc
    subst hspot
    refine ⟨g, o, rfl, World.block_lt_of_cell? W _ hc, fun k f hk j v hv => ?_⟩
    have h := (hfa k f hk).2 j v hv
    have e : ((⟨g, o, none⟩ : Addr).add (k * 8 + j)) = ⟨g, o + k * 8 + j, none⟩ := by simp [Addr.add, Nat.add_assoc]
    rwa [e] at h

end Go.Proofs.YtfppgplboomdbaaGreatDoor

namespace Go.Proofs.YtfppgplboomdbaaGreatDoor
open Go.ChangeShapes Go.WideShapes Go.ChangeAt Go.RowKit Go.Deep

theorem u8_bd {n : Int} (h : (Lit.int .u8 n).wf = true) : 0 ≤ n ∧ n ≤ 255 := by
  have h1 : (decide (IntKind.u8.min ≤ n) && decide (n ≤ IntKind.u8.max)) = true := h
  rw [Bool.and_eq_true] at h1
  have a := of_decide_eq_true h1.1
  have b := of_decide_eq_true h1.2
  have e1 : IntKind.u8.min = 0 := by decide
  have e2 : IntKind.u8.max = 255 := by decide
  rw [e1] at a
  rw [e2] at b
  exact ⟨a, b⟩
theorem u16_bd {n : Int} (h : (Lit.int .u16 n).wf = true) : 0 ≤ n ∧ n ≤ 65535 := by
  have h1 : (decide (IntKind.u16.min ≤ n) && decide (n ≤ IntKind.u16.max)) = true := h
  rw [Bool.and_eq_true] at h1
  have a := of_decide_eq_true h1.1
  have b := of_decide_eq_true h1.2
  have e1 : IntKind.u16.min = 0 := by decide
  have e2 : IntKind.u16.max = 65535 := by decide
  rw [e1] at a
  rw [e2] at b
  exact ⟨a, b⟩
theorem laid_eq : Rows.fnIsoTreeRow.laid = Lst := rfl
theorem laid_eq2 : Rows.fnIsoAtRow.laid = Lst := rfl
set_option maxRecDepth 100000 in
theorem tree_contract (H : Type) (enc : TypeId × Value → H) (F : Stop.Interp) (W : World) (base : Nat) (args : Array Value) (ds gs : List (DataW H)) (before : List MemPlace)
    (hval0 : ∀ (j : Nat) t v, Tryz.f3.params[j]? = some t → args[j]? = some v → Value.okWide Tryz.prog W .any base t v)
    (hW : DataW.Whole enc Tryz.prog Tryz.f3.params.toList Rows.fnIsoTreeSpec.vars false W args.toList ds gs before) (hL : laidMetH Tryz.prog Lst W) :
    Calls Tryz.prog 3 args W fun e W' => ∃ v, e = .returned v ∧ ((OpenSpec.ofChange Rows.fnIsoTreeSpec).at F).post enc Tryz.prog Tryz.f3 false true false false W args v W' := by
  have hval : ∀ (j : Nat) t v, Tryz.f3.params[j]? = some t → args[j]? = some v → Value.okWide Tryz.prog W .any base t v := hval0
  have hW' := hW
  obtain ⟨p, q, hA0, hV0, rfl, _, _⟩ := hW
  have hA : DataW.TrodAll enc Tryz.prog W 0 (fun _ => true) true Tryz.f3.params.toList args.toList ds p := hA0
  rw [Tryz.params3] at hA hval
  obtain ⟨v0, v1, d0, d1, p0, p1, rfl, rfl, rfl, h0, h1⟩ := trodAll_two hA
  obtain ⟨rfl, rfl⟩ := trodVars_none hV0
  obtain ⟨a0, len, cap, rfl⟩ := okWide_slice Tryz.underlying22 (hval 0 22 v0 rfl rfl)
  obtain ⟨x, rfl, rfl, rfl, wx⟩ := open_int Tryz.underlying5 (hval 1 5 v1 rfl rfl) h1
  have h0k := h0
  obtain ⟨fuel0, hf0⟩ := h0
  clear hA0 hV0 hval0
  simp only [List.append_nil] at hW'
  have hlt : ∀ y ∈ p0, y.block < W.heap.size := fun y hy => hW'.lt y (by simpa using hy)
  obtain ⟨fs, hfl, hfa, hbig, hlm⟩ := open_files hf0
  obtain ⟨hx0, hx1⟩ := u8_bd wx
  obtain ⟨ea, heof⟩ := eof_of_laid hL
  have htabs := tabs_of_laid hL
  have h6 := size_of_laid hL
  unfold maxLen at hlm
  have hmain := fnIsoTree_any a0 cap fs x ea W hfa hbig (by omega) hx0 hx1 heof htabs h6
  rw [hfl] at hmain
  refine hmain.mono ?_
  rintro e W' ⟨rfl, bel⟩
  refine ⟨_, rfl, _, _, _, [], p0, [], hW', ?_, ?_, ?_, bel.frame _, fun h => by cases h⟩
  · exact trodAll_mk1 (shut_bool Tryz.underlying4 _)
  · have h := trodAll_mk2 (Below.trod Tryz.laidOut (by kernel_rfl) (of_decide_eq_true (by kernel_rfl)) h0k bel hlt) (shut_int (enc := enc) (P := Tryz.prog) (w := W') (base := 0) (spare := fun b => decide (b < W.heap.size)) (held := true) Tryz.underlying5 wx)
    rw [List.append_nil] at h
    exact h
  · rfl
theorem tree_witness (os : Os) {H : Type} (enc : TypeId × Value → H) :
    (OpenSpec.ofChange Rows.fnIsoTreeSpec).preRow enc Tryz.prog Tryz.f3 Rows.fnIsoTreeRow.domain false Lst ((laidWorld os).forCall (fun _ _ => 0) ⟨#[], #[.slice none 0 0, .int .u8 0], []⟩).memory #[.slice none 0 0, .int .u8 0] := by
  have hw : (DataW.whole enc Tryz.prog ((laidWorld os).forCall (fun _ _ => 0) ⟨#[], #[.slice none 0 0, .int .u8 0], []⟩).memory Tryz.f3.params.toList Rows.fnIsoTreeSpec.vars false #[Value.slice none 0 0, Value.int .u8 0].toList 8).map (fun x => (x.1, x.2.1)) =
      some ([.nil, .lit (.int .u8 0)], []) := by kernel_rfl
  obtain ⟨⟨x1, x2, x3⟩, hx, hx1⟩ := Option.map_eq_some_iff.1 hw
  simp only [Prod.mk.injEq] at hx1
  obtain ⟨rfl, rfl⟩ := hx1
  exact OpenSpec.preRow_of_cond 8 hx (by kernel_rfl) (fun k hk => by cases hk) (by kernel_rfl) (laid_met os _)
set_option maxRecDepth 100000 in
theorem tree_lifted (os : Os) (started : os.Started) (H : Type) (enc : TypeId × Value → H) (F : Stop.Interp) :
    ReturnsInHanded {} Tryz.checked os 3 .any ((OpenSpec.ofChange Rows.fnIsoTreeSpec).preRow enc Tryz.prog Tryz.f3 Rows.fnIsoTreeRow.domain false Rows.fnIsoTreeRow.laid) (((OpenSpec.ofChange Rows.fnIsoTreeSpec).at F).post enc Tryz.prog Tryz.f3 false true false false) := by
  refine returnsInHanded_of_row (C := Tryz.checked) (s := OpenSpec.ofChange Rows.fnIsoTreeSpec) Tryz.own started (by kernel_rfl) Tryz.func3
    (witness_row_atRef (enc := enc) (C := Tryz.checked) false (laidWorld os) #[.slice none 0 0, .int .u8 0] rfl (wit_vars os _) (by kernel_rfl) (by kernel_rfl) (tree_witness os enc)) ?_
  intro W base args ds gs before hval hW _ _ _ hL _ _
  exact tree_contract H enc F W base args ds gs before hval hW hL

end Go.Proofs.YtfppgplboomdbaaGreatDoor
