/- Part of the proofs of laws.FnIsoTree and laws.FnIsoAt: lemmas and contracts of functions that the two laws reach, each under the hypotheses that its own statement names. -/
import Derived.Test.YtfppgplboomdbaaGreatDoorMC7
import Derived.OrdersHeld
namespace Go.Proofs.YtfppgplboomdbaaGreatDoor
open Go.RowKit

set_option maxHeartbeats 2000000 in
set_option maxRecDepth 100000 in
theorem isoRecords2_any (d : Nd) (kv : Value) (_hkv : kv.oneCell' = true) (a : Value) (w : World) :
    Calls Tryz.prog 42 #[.agg (ncells d kv).toArray, a] w fun e w' => e = .returned (.slice none 0 0) ∧ Below w.heap.size w w' := by
  have c13 : (w.alloc (.cells (ncells d kv).toArray 61)).cell? ⟨w.heap.size, 13, none⟩ = some (.slice none 0 0) := by rw [cell_of_row _ _ _ _ _ _ (heap_alloc_new w _)]; rfl
  have c14 : (w.alloc (.cells (ncells d kv).toArray 61)).cell? ⟨w.heap.size, 14, none⟩ = some (.slice none 0 0) := by rw [cell_of_row _ _ _ _ _ _ (heap_alloc_new w _)]; rfl
  go_enter Tryz.func42, Tryz.ntmps42
  go_wp2
  go_ret
  exact ⟨rfl, (Below.refl _ _).alloc (Nat.le_refl _) _⟩

theorem src_cells {w : World} {gs : Nat} {S : Bs} (h : ∀ j (h : j < S.length), w.cell? ⟨gs, j, none⟩ = some (.int .u8 (S[j].toNat : Int))) (j : Nat) (u : Value) (hu : (bcs S)[j]? = some u) : w.cell? ((⟨gs, 0, none⟩ : Addr).add j) = some u := by
  rw [Addr.add_mid, Nat.zero_add]
  simp only [bcs, List.getElem?_map] at hu
  cases hS : S[j]? with
  | none => simp [hS] at hu
  | some b =>
    obtain ⟨h1, h2⟩ := List.getElem?_eq_some_iff.1 hS
    rw [hS] at hu
    rw [h j h1, h2]
    simpa using hu
theorem OutV.app' {w wa w' : World} {B po N M : Nat} {xs news : Bs} {v v' : Value} (h : OutV w B po xs) (hv : w.cell? ⟨po, 0, none⟩ = some v) (hwa : Below w.heap.size w wa) (hN : xs.length = N) (hM : news.length = M) (hA : AppLeft wa B 1 N M v (bcs xs) (bcs news) v' w') :
    OutV (w'.setCell ⟨po, 0, none⟩ v') B po (xs ++ news) ∧ w'.cell? ⟨po, 0, none⟩ = some v ∧ w'.frozen? ⟨po, 0, none⟩ = false := by
  subst hN hM; exact h.app hv hwa hA

set_option maxHeartbeats 4000000 in
set_option maxRecDepth 100000 in
theorem isoRecords1_any (B po : Nat) (xs S : Bs) (gs cs : Nat) (w : World) (hpos : 0 < S.length) (hfit : xs.length + S.length ≤ 2048)
    (ho : OutV w B po xs) (hs : ∀ j (h : j < S.length), w.cell? ⟨gs, j, none⟩ = some (.int .u8 (S[j].toNat : Int))) :
    Calls Tryz.prog 41 #[.slice (some ⟨gs, 0, none⟩) S.length cs, .pointer (some ⟨po, 0, none⟩)] w fun e w' => e = .returned (.tuple #[]) ∧ OutV w' B po (xs ++ S) ∧ Below B w w' := by
  obtain ⟨v, hv, hov, hvne⟩ := ho.ex
  have HO := Lib.hid ho
  have HS := Lib.hid hs
  obtain ⟨ad, cap, rfl⟩ := hov.slice
  have HV := Lib.hid hov
  obtain ⟨i5, hi, hz0, hz1, hz2⟩ := info_parts Tryz.info5
  clear ho hs hov
  generalize hN : xs.length = N at hv HV hvne hfit
  generalize hM : S.length = M at hpos hfit ⊢
  have HN := Lib.hid hN
  have HM := Lib.hid hM
  clear hN hM
  have hBw : B ≤ w.heap.size := by have := HO.out.lt; have := HO.out.lo; omega
  have hm : (N : Int) % 2048 = N := by omega
  have hm2 : ¬ (2048 < (N : Int) + (M : Int)) := by omega
  go_enter Tryz.func41, Tryz.ntmps41
  go_wp2_with (first
    | (refine wpList_append_ownS' rfl (.tmp 16) (.tmp 17) 26 rfl B 5 i5 (.int .u8 0) 1 1 Tryz.underlying26 hi hz0 hz1 hz2 rfl (by decide) _ N (bcs xs) (by rfl) HV.out ⟨gs, 0, none⟩ M cs (bcs S) (by rfl) (by rw [bcs_length, HM.out, Nat.mul_one]) (fun j u hu => src_cells HS.out j u hu) (oneCell_bcs S) hpos (by unfold maxLen; omega) (by omega) hBw ?_
       intro v5 w5 hA5
       have h5 := HO.out.app' hv (Below.refl _ _) HN.out HM.out hA5
       have hb5 := hA5.below
       obtain ⟨g5, cap5, rfl⟩ := hA5.own.pos (by omega)
       have c5 := h5.2.1
       have f5 := h5.2.2
       have H5 := Lib.hid h5.1
       have HB5 := Lib.hid hb5
       clear hA5 h5 hb5))
  go_end0
  exact ⟨rfl, H5.out, HB5.out.setCell (by exact HO.out.lo) _⟩

end Go.Proofs.YtfppgplboomdbaaGreatDoor

namespace Go.Proofs.YtfppgplboomdbaaGreatDoor
open Go.RowKit

theorem zeroCells_bytes (n : Nat) : Builtin.zeroCells #[Value.int .u8 0] n = (bcs (List.replicate n 0)).toArray := by
  apply Array.ext'
  simp [Builtin.zeroCells, bcs]
  apply List.ext_getElem
  · simp
  · intro i h1 h2
    simp [Nat.mod_one]
/-- append of zero bytes (make) onto an owned slice of bytes, as one step of a region that draws. -/
theorem step_append_zeros {P : Program} {w : World} {ops : Array Oper} {o : Oper} {a : Act} {K : Act → World → Prop} {Q : Exit → Act → World → Prop} {E : Prop}
    (hg : o.guard = none) (s x : Operand) (t u : TypeId) (hop : o.op = Op.call { callee := Callee.builtin Builtin.append, args := #[s, x], argTypes := #[t, u] })
    (B : Nat) (e : TypeId) (i : TypeInfo) (h1 : P.underlying t = some (.slice e)) (k : IntKind) (hu : P.underlying u = some (.int k)) (h2 : P.info? e = some i) (h3 : i.zero = some (.int .u8 0)) (h4 : i.size = 1) (h5 : i.bytes = 1)
    (v : Value) (n : Nat) (xs : List Value) (hs : a.eval s = v) (hown : OwnS w B 1 v n xs)
    (m : Nat) (hx : a.eval x = .int .i64 (m : Int)) (hm0 : 0 < m) (hn0 : 0 < n)
    (b1 : n + m ≤ maxLen) (b2 : n + m ≤ 140737488355328) (hB : B ≤ w.heap.size)
    (hK : ∀ v' w', AppLeft w B 1 n m v xs (bcs (List.replicate m 0)) v' w' → K (a.put o.dst v') w') :
    if Region.wanted o (yielded ops a.tmps) = true then Oper.wp P o a w K Q else E := by
  have hw : Region.wanted o (yielded ops a.tmps) = true := by simp [Region.wanted, hg]
  rw [if_pos hw]
  have hl := hown.1
  rw [Nat.mul_one] at hl
  have hsl : (bcs (List.replicate m 0)).length = m := by rw [bcs_length, List.length_replicate]
  have hms : n + m ≤ 9223372036854775807 := by simp only [maxLen] at b1; omega
  have hwm : IntKind.i64.wrap (m : Int) = m := wrap_small _ (by omega) (by omega)
  have hm1 : ¬ ((m : Int) < 0) := by omega
  have hm2 : ¬ (281474976710656 < (m : Int)) := by omega
  have hm3 : ¬ (m = 0) := by omega
  have grown : ∀ (cap' : Nat) (C : Array Value), n + m ≤ cap' → cap' ≤ maxLen → C.size = cap' → (∀ (j : Nat) (q : Value), (xs ++ bcs (List.replicate m 0))[j]? = some q → C[j]? = some q) → (∀ k, v.ownBlock = some k → k < w.heap.size) →
      (Builtin.append_ #[t, u] o.type #[v, .int .i64 (m : Int)]).run P w = .ok (.slice (some ⟨w.heap.size, 0, none⟩) (n + m) cap') (w.drew.alloc (.cells C e)) →
      Oper.wp P o a w K Q := fun cap' C hge hcm hcl hC hvb hrun => by
    unfold Oper.wp
    simp [execOp, hop, resolve, invoke, builtin, hs, hx, hrun, Result.andThen]
    have hlow : ∀ k, k < w.heap.size → (w.drew.alloc (.cells C e)).heap[k]? = w.heap[k]? := fun k hk => Below.heap_alloc w.drew _ k hk
    refine hK _ _ ⟨⟨by rw [List.length_append, hl, hsl, Nat.mul_one], .inr ⟨w.heap.size, _, rfl, hB, by simp, hge, hcm, fun j q hq => ?_, fun j hj => ?_⟩⟩, ⟨rfl, rfl, rfl, by simp, fun k hk => hlow k (by omega)⟩, by simp, fun k hk _ => hlow k hk, fun k hk => .inr ?_, fun k j hk hj => World.cell?_of_block (a := ⟨k, j, none⟩) (hlow k (hvb k hk))⟩
    · exact (cell_of_row (w.drew.alloc (.cells C e)) w.heap.size j _ _ _ (heap_alloc_new w.drew _)).trans (hC j q hq)
    · have ht := there_alloc_new w.drew C e cap' hcl.symm j (by omega)
      simpa using ht
    · have e' : w.heap.size = k := Option.some.inj hk
      omega
  have zz : ∀ (old : Nat), old < n + m → (xs.toArray ++ (bcs (List.replicate m 0)).toArray ++ Builtin.zeroCells (Value.int .u8 0).cells (grownCap w (n + m) old e - (n + m))).size = grownCap w (n + m) old e ∧
      ∀ (j : Nat) (q : Value), (xs ++ bcs (List.replicate m 0))[j]? = some q → (xs.toArray ++ (bcs (List.replicate m 0)).toArray ++ Builtin.zeroCells (Value.int .u8 0).cells (grownCap w (n + m) old e - (n + m)))[j]? = some q := fun old ho => by
    have hge := grownCap_ge w (n + m) old e
    have hz1 : (Value.int IntKind.u8 0).cells.size = 1 := rfl
    refine ⟨?_, fun j q hq => ?_⟩
    · simp only [Array.size_append, List.size_toArray, size_zeroCells, hz1, hl, hsl]
      omega
    · rw [← Array.getElem?_toList, Array.toList_append, Array.toList_append, List.getElem?_append_left]
      · exact hq
      · exact (List.getElem?_eq_some_iff.1 hq).1
  obtain ⟨hl', ⟨rfl, rfl⟩ | ⟨g, cap, rfl, hgB, hlt, hnc, hcm, hcell, hspare⟩⟩ := hown
  · omega
  · by_cases hr : n + m ≤ cap
    · have hin : ∀ j, j < (bcs (List.replicate m 0)).length → (w.cell? ⟨g, n + j, none⟩).isSome = true := fun j hj => by
        rw [hsl] at hj; exact (hspare _ (by omega)).1
      have hst := run_storeCells_cells (P := P) g n (bcs (List.replicate m 0)) 0 w (by simpa using hin) (fun j hj => by
        rw [hsl] at hj; simpa using (hspare (n + j) (by omega)).2) (oneCell_bcs _)
      simp only [Nat.add_zero] at hst
      have hrun : (Builtin.append_ #[t, u] o.type #[.slice (some ⟨g, 0, none⟩) n cap, .int .i64 (m : Int)]).run P w = .ok (.slice (some ⟨g, 0, none⟩) (n + m) cap) (w.setCells g n (bcs (List.replicate m 0))) := by
        simp [Builtin.append_, run_underlying h1, run_underlying hu, sizeOf, typeInfo, zeroValue, asInt, asIntOf, h2, h3, h4, h5, hwm, hm1, hm2, hm3, hr, zeroCells_bytes, Addr.add_lit, hst, Value.cells]
      unfold Oper.wp
      simp [execOp, hop, resolve, invoke, builtin, hs, hx, hrun, Result.andThen]
      refine hK _ _ ⟨⟨by rw [List.length_append, hl, hsl, Nat.mul_one], .inr ⟨g, cap, rfl, hgB, by rw [setCells_size]; exact hlt, hr, hcm, fun j q hq => ?_, fun j hb => ?_⟩⟩, ⟨(setCells_rest _ _ _ _).1, (setCells_rest _ _ _ _).2.1, (setCells_rest _ _ _ _).2.2, by rw [setCells_size]; exact Nat.le_refl _, fun k hk => setCells_block _ _ _ _ _ (by omega)⟩, by rw [setCells_size]; exact Nat.le_refl _, fun k hk hne => setCells_block _ _ _ _ _ (fun e => hne (by simp [Value.ownBlock, e])), fun k hk => .inl hk, fun k j hk hj => by simp [Value.ownBlock] at hk; subst hk; exact World.cell?_setCells_out _ _ _ _ _ (fun _ _ => .inl (by show j < n; omega))⟩
      · by_cases hj : j < xs.length
        · rw [List.getElem?_append_left hj] at hq
          rw [World.cell?_setCells_out _ _ _ _ _ (fun _ _ => .inl (by show j < n; omega))]
          exact hcell j q hq
        · rw [List.getElem?_append_right (by omega)] at hq
          obtain ⟨hj2, hu2⟩ := List.getElem?_eq_some_iff.1 hq
          have := World.cell?_setCells_in g (bcs (List.replicate m 0)) n w hin (j - xs.length) hj2
          rw [hu2] at this
          have e : n + (j - xs.length) = j := by omega
          rw [e] at this; exact this
      · rw [World.frozen?_setCells]
        refine ⟨?_, (hspare j hb).2⟩
        by_cases hj1 : j < n
        · rw [World.cell?_setCells_out _ _ _ _ _ (fun _ _ => .inl (by show j < n; omega))]
          exact (hspare j hb).1
        · by_cases hj2 : j < n + m
          · have := World.cell?_setCells_in g (bcs (List.replicate m 0)) n w hin (j - n) (by omega)
            have e : n + (j - n) = j := by omega
            rw [e] at this; rw [this]; rfl
          · rw [World.cell?_setCells_out _ _ _ _ _ (fun _ _ => .inr (by show n + (bcs (List.replicate m 0)).length ≤ j; omega))]
            exact (hspare j hb).1
    · have hfo := run_firstCells_some (P := P) w.drew 1 n ⟨g, 0, none⟩ n cap xs (by rw [hl]; omega) (fun j q hq => by rw [Addr.add_lit, Nat.zero_add]; simpa using hcell j q hq)
      have hft := growslice_fits (show cap < n + m by omega) (show (n + m) * 1 ≤ 140737488355328 by omega)
      have hfit : ¬ (281474976710656 < Builtin.nextslicecap (n + m) cap) := by omega
      have hms' : ¬ (9223372036854775807 < ((n : Int) + (m : Int))) := by omega
      have hr2 : (Builtin.append_ #[t, u] o.type #[.slice (some ⟨g, 0, none⟩) n cap, .int .i64 (m : Int)]).run P w = .ok (.slice (some ⟨w.heap.size, 0, none⟩) (n + m) (grownCap w (n + m) cap e)) (w.drew.alloc (.cells (xs.toArray ++ (bcs (List.replicate m 0)).toArray ++ Builtin.zeroCells (Value.int .u8 0).cells (grownCap w (n + m) cap e - (n + m))) e)) := by
        simp [Builtin.append_, run_underlying h1, run_underlying hu, sizeOf, typeInfo, zeroValue, asInt, asIntOf, h2, h3, h4, h5, hwm, hm1, hm2, hm3, hr, hms', hfit, zeroCells_bytes, Value.cells, Question.forced, hfo, newRow, grownCap]
      obtain ⟨z1, z2⟩ := zz cap (by omega)
      exact grown _ _ (grownCap_ge w _ cap e) (grownCap_le_maxLen w _ cap e b1) z1 z2 (fun k hk => by
        have e' : g = k := Option.some.inj hk
        omega) hr2
theorem wpList_append_zeros {P : Program} {w : World} {ops : Array Oper} {rest : List Oper} {o : Oper} {a : Act} {Q : Exit → Act → World → Prop}
    (hg : o.guard = none) (s x : Operand) (t u : TypeId) (hop : o.op = Op.call { callee := Callee.builtin Builtin.append, args := #[s, x], argTypes := #[t, u] })
    (B : Nat) (e : TypeId) (i : TypeInfo) (h1 : P.underlying t = some (.slice e)) (k : IntKind) (hu : P.underlying u = some (.int k)) (h2 : P.info? e = some i) (h3 : i.zero = some (.int .u8 0)) (h4 : i.size = 1) (h5 : i.bytes = 1)
    (v : Value) (n : Nat) (xs : List Value) (hs : a.eval s = v) (hown : OwnS w B 1 v n xs)
    (m : Nat) (hx : a.eval x = .int .i64 (m : Int)) (hm0 : 0 < m) (hn0 : 0 < n)
    (b1 : n + m ≤ maxLen) (b2 : n + m ≤ 140737488355328) (hB : B ≤ w.heap.size)
    (hK : ∀ v' w', AppLeft w B 1 n m v xs (bcs (List.replicate m 0)) v' w' → wpList P ops Q rest (a.put o.dst v') w') :
    wpList P ops Q (o :: rest) a w := by
  refine wpList_plain hg fun K hK' => ?_
  have := step_append_zeros (P := P) (ops := ops) (K := K) (Q := Q) (E := True) hg s x t u hop B e i h1 k hu h2 h3 h4 h5 v n xs hs hown m hx hm0 hn0 b1 b2 hB (fun v' w' h => hK' _ _ (hK v' w' h))
  have hw : Region.wanted o (yielded ops a.tmps) = true := by simp [Region.wanted, hg]
  rwa [if_pos hw] at this

end Go.Proofs.YtfppgplboomdbaaGreatDoor

namespace Go.Proofs.YtfppgplboomdbaaGreatDoor
open Go.RowKit

/-- What a store of a row into block b leaves. -/
structure RowLeft (w : World) (b : Nat) (cs : List Value) (w' : World) : Prop where
  range : w'.rangeAt b 0 cs
  other : ∀ k, k ≠ b → w'.heap[k]? = w.heap[k]?
  size : w'.heap.size = w.heap.size
  rest : w'.os = w.os ∧ w'.tape = w.tape ∧ w'.output = w.output
theorem step_store_row {P : Program} {w : World} {ops : Array Oper} {op : Oper} {a : Act} {K : Act → World → Prop} {Q : Exit → Act → World → Prop} {E : Prop} (hg : op.guard = none) (ty : TypeId) (x y : Operand) (ho : op.op = .store ty x y)
    (b : Nat) (cells : Array Value) (hx : a.eval x = .pointer (some ⟨b, 0, none⟩)) (hy : a.eval y = .agg cells)
    (ht : w.there b 0 cells.size) (hi : (P.info? ty).map (·.size) = some cells.size) (h1 : cells.all (·.oneCell') = true)
    (h : ∀ w', RowLeft w b cells.toList w' → K (a.put op.dst undef) w') : if Region.wanted op (yielded ops a.tmps) = true then Oper.wp P op a w K Q else E := by
  have hw : Region.wanted op (yielded ops a.tmps) = true := by simp [Region.wanted, hg]
  rw [if_pos hw]
  exact wp_store_mid ty x y ho b 0 cells hx hy ht hi h1 (h _ ⟨World.rangeAt_setCells_same _ _ _ _ (by simpa using ht), fun k hk => setCells_block _ _ _ _ _ hk, setCells_size _ _ _ _, setCells_rest _ _ _ _⟩)
theorem step_load_row {P : Program} {w : World} {ops : Array Oper} {op : Oper} {a : Act} {K : Act → World → Prop} {Q : Exit → Act → World → Prop} {E : Prop} (hg : op.guard = none) (ty : TypeId) (x : Operand) (ho : op.op = .load ty x)
    (b o : Nat) (hx : a.eval x = .pointer (some ⟨b, o, none⟩)) (cs : List Value) (d : TypeDesc) (hc : w.rangeAt b o cs)
    (hu : P.underlying ty = some d) (hd : d.isRow = true) (hi : (P.info? ty).map (·.size) = some cs.length)
    (h : K (a.put op.dst (.agg cs.toArray)) w) : if Region.wanted op (yielded ops a.tmps) = true then Oper.wp P op a w K Q else E := by
  have hw : Region.wanted op (yielded ops a.tmps) = true := by simp [Region.wanted, hg]
  rw [if_pos hw]
  exact wp_load_mid ty x ho b o hx cs d hc hu hd hi h

theorem there_same {w w' : World} {b o n : Nat} (h : w.there b o n) (e : w'.heap[b]? = w.heap[b]?) : w'.there b o n := fun j hj => by
  rw [World.cell?_of_block (w := w) (a := ⟨b, o + j, none⟩) e, World.frozen?_of_block (w := w) (a := ⟨b, o + j, none⟩) e]; exact h j hj
theorem RowLeft.cell {w w' : World} {b : Nat} {cs : List Value} (h : RowLeft w b cs w') {a : Addr} {v : Value} (hc : w.cell? a = some v) (hne : a.block ≠ b) : w'.cell? a = some v := (World.cell?_of_block (h.other _ hne)).trans hc


end Go.Proofs.YtfppgplboomdbaaGreatDoor

namespace Go.Proofs.YtfppgplboomdbaaGreatDoor
open Go.RowKit

section
variable {P : Program} {ops : Array Oper} {Q : Exit → Act → World → Prop} {md : Region.Mode} {S : World → Prop}
/-- 'wpAnyH_take' with the operation's place written out. -/
theorem hTake {i : Nat} {oi : Oper} {v : Value} (d : Option Tmp) {fuel : Nat} {listed : Array Bool} {a : Act} {w : World} (hi : ops[i]? = some oi) (hd : oi.dst = d)
    (hs : Region.noSelect ops = true) (hf : Region.free md ops listed i = true) (hr : (Region.ready md ops listed).contains i = true)
    (hQ : ∀ c a w, Q (.panic c) (a.put d v) w → Q (.panic c) a w) (hy : YieldsIf P ops S oi v a) (hS : S w)
    (h : wpAnyH P md ops Q S fuel (listed.setIfInBounds i true) (a.put d v) w) : wpAnyH P md ops Q S (fuel + 1) listed a w := by
  subst hd; exact wpAnyH_take hi hs hf hr hQ hy hS h
theorem rows2 {p : Nat → Prop} {i j : Nat} (h1 : p i) (h2 : p j) : ∀ k ∈ [i, j], p k := fun k hk => by
  simp at hk; rcases hk with rfl | rfl
  · exact h1
  · exact h2
theorem rows1 {p : Nat → Prop} {i : Nat} (h1 : p i) : ∀ k ∈ [i], p k := fun k hk => by
  simp at hk; subst hk; exact h1
/-- An operation that is carried out: it leaves a value. -/
theorem hRun {i : Nat} {oi : Oper} {v : Value} (d : Option Tmp) {K : Act → World → Prop} {a : Act} {w w' : World} (hi : ops[i]? = some oi) (hd : oi.dst = d) (hg : oi.guard = none)
    (hrun : (execOp a.eval oi).run P w = .ok (.value v) w') (h : K (a.put d v) w') : wpOp P ops Q i K a w := by
  subst hd
  unfold wpOp
  simp only [hi]
  rw [if_pos (by simp [Region.wanted, hg])]
  refine .inl ?_
  unfold Oper.wp
  rw [hrun]; exact h
theorem hAlloc {i : Nat} {oi : Oper} (d : Option Tmp) (t : TypeId) (cs : Array Value) {K : Act → World → Prop} {a : Act} {w : World} (hi : ops[i]? = some oi) (hd : oi.dst = d) (hg : oi.guard = none) (ho : oi.op = .alloc t)
    (hz : ∀ w : World, (Instr.alloc t true (.tuple #[])).run P w = .ok (.pointer (some ⟨w.heap.size, 0, none⟩)) (w.alloc (.cells cs t))) (h : K (a.put d (.pointer (some ⟨w.heap.size, 0, none⟩))) (w.alloc (.cells cs t))) : wpOp P ops Q i K a w := by
  refine hRun d hi hd hg ?_ h
  unfold execOp
  simp [ho, hz]
/-- A row that is stored. -/
theorem hStoreRow {i : Nat} {oi : Oper} (ty : TypeId) (x y : Operand) {K : Act → World → Prop} {a : Act} {w : World} (hi : ops[i]? = some oi) (hd : oi.dst = none) (hg : oi.guard = none) (ho : oi.op = .store ty x y)
    (b : Nat) (cells : Array Value) (hx : a.eval x = .pointer (some ⟨b, 0, none⟩)) (hy : a.eval y = .agg cells)
    (ht : w.there b 0 cells.size) (hs : (P.info? ty).map (·.size) = some cells.size) (h1 : cells.all (·.oneCell') = true)
    (h : ∀ w', RowLeft w b cells.toList w' → K a w') : wpOp P ops Q i K a w := by
  unfold wpOp
  simp only [hi]
  rw [if_pos (by simp [Region.wanted, hg])]
  refine .inl ?_
  refine wp_store_mid ty x y ho b 0 cells hx hy ht hs h1 ?_
  rw [hd]
  exact (h _ ⟨World.rangeAt_setCells_same _ _ _ _ (by simpa using ht), fun k hk => setCells_block _ _ _ _ _ hk, setCells_size _ _ _ _, setCells_rest _ _ _ _⟩)
end
theorem RowLeft.range_old {w w' : World} {b : Nat} {cs : List Value} (h : RowLeft w b cs w') {b' o' : Nat} {cs' : List Value} (hr : w.rangeAt b' o' cs') (hne : b' ≠ b) : w'.rangeAt b' o' cs' := fun j v hv => (World.cell?_of_block (h.other _ hne)).trans (hr j v hv)
theorem RowLeft.below {w0 w w' : World} {b B : Nat} {cs : List Value} (h : RowLeft w b cs w') (hb : Below B w0 w) (hB : B ≤ b) : Below B w0 w' :=
  hb.trans ⟨h.rest.1, h.rest.2.1, h.rest.2.2, by rw [h.size]; exact Nat.le_refl _, fun k hk => h.other k (by omega)⟩

/-- Two rows in fresh variables. -/
def Two (w2 : World) (ca cb : List Value) (t12 t13 : Value) (wx : World) : Prop := ∃ bm bu, t12 = .pointer (some ⟨bm, 0, none⟩) ∧ t13 = .pointer (some ⟨bu, 0, none⟩) ∧ w2.heap.size ≤ bm ∧ w2.heap.size ≤ bu ∧ bm < wx.heap.size ∧ bu < wx.heap.size ∧ wx.rangeAt bm 0 ca ∧ wx.rangeAt bu 0 cb ∧ Below w2.heap.size w2 wx
theorem two_of {w2 w5 w6 : World} {ca cb : List Value} {bm bu : Nat} (hb : Below w2.heap.size w2 w5) (hm : w2.heap.size ≤ bm) (hu : w2.heap.size ≤ bu) (hne : bm ≠ bu) (hsm : bm < w5.heap.size) (hsu : bu < w5.heap.size)
    (h1 : w5.rangeAt bm 0 ca) (h2 : RowLeft w5 bu cb w6) : Two w2 ca cb (.pointer (some ⟨bm, 0, none⟩)) (.pointer (some ⟨bu, 0, none⟩)) w6 :=
  ⟨bm, bu, rfl, rfl, hm, hu, by rw [h2.size]; exact hsm, by rw [h2.size]; exact hsu, h2.range_old h1 hne, h2.range, h2.below hb hu⟩
def Zc : Array Value := #[.string ⟨#[]⟩, .bool false, .string ⟨#[]⟩, .string ⟨#[]⟩, .int .u32 0, .int .u32 0, .int .u32 0, .int .i64 0, .string ⟨#[]⟩, .int .i64 0, .slice none 0 0, .int .u32 0, .int .u32 0, .slice none 0 0, .slice none 0 0, .int .u32 0, .int .i64 0, .int .i64 0]


theorem two_there1 (w : World) : ((w.alloc (.cells Zc 61)).alloc (.cells Zc 61)).there w.heap.size 0 18 := World.there_alloc (there_alloc_new w Zc 61 18 rfl) _
def Held2 (g i p : Nat) (ca cb : List Value) (x : Value) (w' : World) : Prop := w'.rangeAt g (i * 18) ca ∧ w'.rangeAt g (p * 18) cb ∧ w'.cell? ⟨g, i * 18 + 9, none⟩ = some x
theorem Held2.alloc {g i p : Nat} {ca cb : List Value} {x : Value} {w : World} (h : Held2 g i p ca cb x w) (o : Obj) : Held2 g i p ca cb x (w.alloc o) := ⟨World.rangeAt_alloc h.1 _, World.rangeAt_alloc h.2.1 _, cell_ad h.2.2 _⟩
theorem Held2.left {g i p b : Nat} {ca cb cs : List Value} {x : Value} {w w' : World} (h : Held2 g i p ca cb x w) (hr : RowLeft w b cs w') (hne : g ≠ b) : Held2 g i p ca cb x w' := ⟨hr.range_old h.1 hne, hr.range_old h.2.1 hne, hr.cell h.2.2 hne⟩
theorem two_there2 {w w5 : World} {cs : List Value} (h : RowLeft ((w.alloc (.cells Zc 61)).alloc (.cells Zc 61)) w.heap.size cs w5) : w5.there (w.alloc (.cells Zc 61)).heap.size 0 18 :=
  there_same (there_alloc_new (w.alloc (.cells Zc 61)) Zc 61 18 rfl) (h.other _ (by simp))
theorem two_there3 {w w5 : World} {cs : List Value} (h : RowLeft ((w.alloc (.cells Zc 61)).alloc (.cells Zc 61)) (w.alloc (.cells Zc 61)).heap.size cs w5) : w5.there w.heap.size 0 18 :=
  there_same (two_there1 w) (h.other _ (by simp))
theorem two_a {w w5 w6 : World} {ca cb : List Value} (h5 : RowLeft ((w.alloc (.cells Zc 61)).alloc (.cells Zc 61)) w.heap.size ca w5) (h6 : RowLeft w5 (w.alloc (.cells Zc 61)).heap.size cb w6) : Two w ca cb (.pointer (some ⟨w.heap.size, 0, none⟩)) (.pointer (some ⟨(w.alloc (.cells Zc 61)).heap.size, 0, none⟩)) w6 :=
  two_of (h5.below (((Below.refl _ _).alloc (Nat.le_refl _) _).alloc (by simp) _) (Nat.le_refl _)) (Nat.le_refl _) (by simp) (by simp) (by rw [h5.size]; simp; omega) (by rw [h5.size]; simp) h5.range h6
theorem two_b {w w5 w6 : World} {ca cb : List Value} (h5 : RowLeft ((w.alloc (.cells Zc 61)).alloc (.cells Zc 61)) (w.alloc (.cells Zc 61)).heap.size ca w5) (h6 : RowLeft w5 w.heap.size cb w6) : Two w ca cb (.pointer (some ⟨(w.alloc (.cells Zc 61)).heap.size, 0, none⟩)) (.pointer (some ⟨w.heap.size, 0, none⟩)) w6 :=
  two_of (h5.below (((Below.refl _ _).alloc (Nat.le_refl _) _).alloc (by simp) _) (by simp)) (by simp) (Nat.le_refl _) (by simp) (by rw [h5.size]; simp) (by rw [h5.size]; simp; omega) h5.range h6

section
variable {P : Program} {ops : Array Oper} {Q : Exit → Act → World → Prop} {md : Region.Mode} {S : World → Prop}
/-- A call of a Go function that is carried out. -/
theorem hCall {i : Nat} {oi : Oper} {f : FuncId} {args : Array Value} (d : Option Tmp) {K : Act → World → Prop} {a : Act} {w : World} (hi : ops[i]? = some oi) (hd : oi.dst = d) (hg : oi.guard = none)
    (hrun : (execOp a.eval oi).run P w = .ok (.enter f args) w) (hc : Calls P f args w fun e w' => ∃ v, e = .returned v ∧ K (a.put d v) w') : wpOp P ops Q i K a w := by
  subst hd
  unfold wpOp
  simp only [hi]
  rw [if_pos (by simp [Region.wanted, hg])]
  refine .inl ?_
  unfold Oper.wp
  rw [hrun, Oper.upon_enter]
  refine hc.mono ?_
  rintro e w' ⟨v, rfl, h⟩
  exact h
end
theorem isoRecords1_lit (B po : Nat) (xs S : Bs) (gs cs M : Nat) (w : World) (hM : S.length = M) (hpos : 0 < M) (hfit : xs.length + M ≤ 2048)
    (ho : OutV w B po xs) (hs : Blk w gs S) :
    Calls Tryz.prog 41 #[.slice (some ⟨gs, 0, none⟩) M cs, .pointer (some ⟨po, 0, none⟩)] w fun e w' => e = .returned (.tuple #[]) ∧ OutV w' B po (xs ++ S) ∧ Below B w w' := by
  subst hM
  exact isoRecords1_any B po xs S gs cs w hpos hfit ho (fun j h => hs.cell_of j h)

end Go.Proofs.YtfppgplboomdbaaGreatDoor
