/- Part of the proofs of laws.FnIsoTree and laws.FnIsoAt: lemmas and contracts of functions that the two laws reach, each under the hypotheses that its own statement names. -/
import Derived.Test.YtfppgplboomdbaaGreatDoorMPart10
import Derived.Test.YtfppgplboomdbaaGreatDoorMPart09
import Derived.Maps.OwnSet
import Derived.Maps.Views
import Derived.WalkKit
import Derived.Test.YtfppgplboomdbaaGreatDoorMPart01
namespace Go.Proofs.YtfppgplboomdbaaGreatDoor
open Go.RowKit

theorem joinP_take {l : List Bs} {i : Nat} {s : Bs} (h : l[i]? = some s) : joinP (l.take (i + 1)) = (if i = 0 then [] else joinP (l.take i) ++ [47]) ++ s := by
  have e : l.take (i + 1) = l.take i ++ [s] := by rw [List.take_add_one, h]; rfl
  rw [e]
  by_cases h0 : i = 0
  · subst h0
    rw [if_pos rfl, List.take_zero, List.nil_append, List.nil_append, joinP_one]
  · rw [if_neg h0, joinP_snoc _ _ (by
      intro h1
      rcases List.take_eq_nil_iff.1 h1 with e | e
      · exact h0 e
      · rw [e] at h; simp at h), List.append_assoc]
    rfl
/-- What treeGood has looked at: the names of a path's first parts. -/
def NamesI (p : List Bs) (dir : Bool) (i : Nat) : Prop := ∀ (j : Nat) (s : Bs), j < i → p[j]? = some s → PName s (dir || decide (j + 1 < p.length))
theorem NamesI.start (p : List Bs) (dir : Bool) : NamesI p dir 0 := fun j s h => by omega
theorem NamesI.next {p : List Bs} {dir : Bool} {i : Nat} {s : Bs} (h : NamesI p dir i) (hs : p[i]? = some s) (hn : PName s (dir || decide (i + 1 < p.length))) : NamesI p dir (i + 1) := fun j t hj ht => by
  by_cases e : j = i
  · subst e
    rw [hs] at ht
    cases ht
    exact hn
  · exact h j t (by omega) ht
theorem NamesI.all {p : List Bs} {dir : Bool} {i : Nat} (h : NamesI p dir i) (hi : p.length ≤ i) : ∀ (j : Nat) (s : Bs), p[j]? = some s → PName s (dir || decide (j + 1 < p.length)) := fun j s hs =>
  h j s (by have := (List.getElem?_eq_some_iff.1 hs).1; omega) hs
theorem dropLast_take {p : List Bs} {i : Nat} (h : p.length ≤ i + 1) : joinP (p.dropLast.take i) = joinP p.dropLast := by
  rw [List.take_of_length_le (by rw [List.length_dropLast]; omega)]
theorem dropLast_get {p : List Bs} {i : Nat} {s : Bs} (h : p[i]? = some s) (hi : i + 1 < p.length) : p.dropLast[i]? = some s := by
  rw [List.dropLast_eq_take, List.getElem?_take, if_pos (by omega)]; exact h
/-- Leaves that are told: what sameTree asks. -/
theorem find_leaf {fs : List FileD} {nd : Nat → Nd} {ks : Nat → List Nat} {ls : List LeafD} (hn : NodesOf fs nd) (h : Tree nd ks (fs.length + 1)) (g : GoodN nd (fs.length + 1)) (hl : Leaves nd (pre nd ks 7 0) ls) {i : Nat} {f : FileD} (hf : fs[i]? = some f) (_hg : Good fs) :
    (∃ (j : Nat) (l : LeafD), ls[j]? = some l ∧ l.path = f.path) ∧ ∀ (j' : Nat) (l' : LeafD), ls[j']? = some l' → l'.path = f.path → l'.name.data.toList = nameOf f ∧ l'.dir = f.dir ∧ (f.dir = false → l'.data = f.data ∧ l'.size = f.data.size) := by
  obtain ⟨j, l, h1, h2, h3⟩ := hl.find hn h g hf
  have hfi : (nd (i + 1)).f = f := by
    obtain ⟨f', e1, e2, _⟩ := hn.node i (List.getElem?_eq_some_iff.1 hf).1
    rw [hf] at e1
    cases e1
    exact e2
  refine ⟨⟨j, l, h1, ByteArray.ext (Array.ext' h2)⟩, fun j' l' h4 h5 => ?_⟩
  have h6 := h3 j' l' h4 (by rw [h5])
  refine ⟨by rw [h6.name]; unfold nmN; rw [hfi], by rw [h6.dir, hfi], fun hd => ?_⟩
  have h7 := h6.data (by rw [hfi]; exact hd)
  rw [hfi] at h7
  exact h7
theorem last_part {fs : List FileD} (g : Good fs) {k : Nat} {f : FileD} (hf : fs[k]? = some f) : ∃ m, (Lib.Pa.els f.path.data.toList).length = m + 1 ∧ (Lib.Pa.els f.path.data.toList)[m]? = some (nameOf f) := by
  have h1 := getLast_parts g hf
  have h2 := List.length_pos_iff.2 (els_ne f.path.data.toList)
  refine ⟨(Lib.Pa.els f.path.data.toList).length - 1, by omega, ?_⟩
  rw [← List.getLast?_eq_getElem?]
  exact h1

end Go.Proofs.YtfppgplboomdbaaGreatDoor

namespace Go.Proofs.YtfppgplboomdbaaGreatDoor
open Go.RowKit

open Go.Maps Go.WideShapes

abbrev DU := DataW Unit
/-- The map that a list of pairs tells (the last pair of a key counts). -/
structure MB (D : DU) (l : List (List UInt8 × Bool)) : Prop where
  map : Maps.IsMap D
  hit : ∀ s, Maps.has D (.string s) = true → ∃ b, (s, b) ∈ l ∧ ∀ z, D.atKey (.string s) z = .lit (.bool b)
  all : ∀ p ∈ l, Maps.has D (.string p.1) = true
theorem MB.nil : MB (.map []) [] := ⟨⟨[], rfl⟩, fun s h => by simp [Maps.has] at h, fun p hp => by simp at hp⟩
theorem strKey (s : List UInt8) : WideAt.IsKeyLit (.string s) := trivial
theorem MB.put {D : DU} {l : List (List UInt8 × Bool)} (h : MB D l) (s : List UInt8) (b : Bool) : MB (D.put (.string s) (.lit (.bool b))) ((s, b) :: l) := by
  refine ⟨?_, fun t ht => ?_, fun p hp => ?_⟩
  · obtain ⟨es, rfl⟩ := h.map
    exact ⟨_, rfl⟩
  · by_cases e : t = s
    · subst e
      exact ⟨b, by simp, fun z => atKey_put_same h.map (strKey _) _ z⟩
    · have hne : (Lit.string t) ≠ .string s := fun h2 => e (by cases h2; rfl)
      rw [has_put_other hne] at ht
      obtain ⟨b', h1, h2⟩ := h.hit t ht
      exact ⟨b', by simp [h1], fun z => by rw [atKey_put_other hne]; exact h2 z⟩
  · by_cases e : p.1 = s
    · rw [e]; exact has_put_same h.map (strKey _) _
    · have hne : (Lit.string p.1) ≠ .string s := fun h2 => e (by cases h2; rfl)
      rw [has_put_other hne]
      rw [List.mem_cons] at hp
      rcases hp with rfl | hp
      · exact absurd rfl e
      · exact h.all p hp
theorem MB.miss {D : DU} {l : List (List UInt8 × Bool)} (h : MB D l) {s : List UInt8} (hs : Maps.has D (.string s) = false) : ∀ b, (s, b) ∉ l := fun b hb => by
  have := h.all _ hb
  rw [hs] at this; cases this
theorem plainElem_bool_inv {P : Program} {e : TypeId} (he : P.underlying e = some .bool) {v : Value} {z : DU × List MemPlace} (h : plainElem P e v = some z) : ∃ x, v = .bool x ∧ z = (.lit (.bool x), []) := by
  unfold plainElem at h
  rw [he] at h
  cases v with
  | bool x => cases h; exact ⟨x, rfl, rfl⟩
  | _ => simp at h
theorem wpList_lookup_bool_ok {P : Program} (w : World) {ops : Array Oper} {rest : List Oper} {o : Oper} {a : Act} {Q : Exit → Act → World → Prop} (hg : o.guard = none) (m x : Operand) (t : TypeId) (hop : o.op = Op.lookup t m x true)
    (k e : TypeId) (K : Keyed P k) (ht : P.underlying t = some (.map k e)) (he : P.underlying e = some .bool) (hz : (zeroValue e).run P w = .ok (.bool false) w) (b n : Nat) (D : DU)
    (hm : a.eval m = .map (some b)) (hown : w.ownsMap P k (plainElem P e) b n D) (key : Value) (kl : Lit) (hx : a.eval x = key) (hkey : keyOf P k key = some kl)
    (hK : ∀ y : Bool, D.atKey kl (.lit (.bool false)) = .lit (.bool y) → wpList P ops Q rest (a.put o.dst (.tuple #[.bool y, .bool (Maps.has D kl)])) w) :
    wpList P ops Q (o :: rest) a w :=
  wpList_lookup_own_ok w hg m x t hop k e K ht (plainElem P e) hz (.lit (.bool false)) [] (plainElem_bool he false) b n D hm hown key kl hx hkey (fun v ps hv => by
    obtain ⟨y, rfl, hy⟩ := plainElem_bool_inv he hv
    exact hK y (congrArg Prod.fst hy))
theorem wpList_lookup_bool {P : Program} (w : World) {ops : Array Oper} {rest : List Oper} {o : Oper} {a : Act} {Q : Exit → Act → World → Prop} (hg : o.guard = none) (m x : Operand) (t : TypeId) (hop : o.op = Op.lookup t m x false)
    (k e : TypeId) (K : Keyed P k) (ht : P.underlying t = some (.map k e)) (he : P.underlying e = some .bool) (hz : (zeroValue e).run P w = .ok (.bool false) w) (b n : Nat) (D : DU)
    (hm : a.eval m = .map (some b)) (hown : w.ownsMap P k (plainElem P e) b n D) (key : Value) (kl : Lit) (hx : a.eval x = key) (hkey : keyOf P k key = some kl)
    (hK : ∀ y : Bool, D.atKey kl (.lit (.bool false)) = .lit (.bool y) → wpList P ops Q rest (a.put o.dst (.bool y)) w) :
    wpList P ops Q (o :: rest) a w := by
  refine wpList_plain hg fun K' hK' => ?_
  obtain ⟨v, ps, hrun, hv⟩ := hown.lookup K ht hz (plainElem_bool he false) hkey
  obtain ⟨y, rfl, hy⟩ := plainElem_bool_inv he hv
  unfold Oper.wp
  simp [execOp, hop, hm, hx, hrun, Result.andThen]
  exact hK' _ _ (hK y (congrArg Prod.fst hy))
/-- Without the key the map answers false. -/
theorem MB.at {D : DU} {l : List (List UInt8 × Bool)} (h : MB D l) {s : List UInt8} {y : Bool} (ha : D.atKey (.string s) (.lit (.bool false)) = .lit (.bool y)) (hy : y = true) : (s, true) ∈ l := by
  subst hy
  cases hh : Maps.has D (.string s) with
  | true =>
    obtain ⟨b, h1, h2⟩ := h.hit s hh
    rw [h2] at ha; cases ha; exact h1
  | false =>
    obtain ⟨es, rfl⟩ := h.map
    simp only [DataW.atKey] at ha
    simp only [Maps.has, List.any_eq_false] at hh
    rw [List.find?_eq_none.2 (fun p hp => by simpa using hh p hp)] at ha
    cases ha
/-- A key that isn't told true by the list is told false. -/
theorem MB.at_all {D : DU} {l : List (List UInt8 × Bool)} (h : MB D l) {s : List UInt8} (ha : D.atKey (.string s) (.lit (.bool false)) = .lit (.bool false)) : ∀ b, (s, b) ∈ l → (s, false) ∈ l := fun b hb => by
  obtain ⟨b', h1, h2⟩ := h.hit s (h.all _ hb)
  rw [h2] at ha; cases ha; exact h1

end Go.Proofs.YtfppgplboomdbaaGreatDoor

namespace Go.Proofs.YtfppgplboomdbaaGreatDoor
open Go.RowKit

open Go.Maps Go.WideShapes Go.WideMaps Go.ChangeMaps

theorem keyed9 : Keyed Tryz.prog 9 := string_keyed Tryz.underlying9
theorem zero4 (w : World) : (zeroValue 4).run Tryz.prog w = .ok (.bool false) w := by kernel_rfl
/-- A map of bools that the call owns, told by a list of pairs. -/
def SeenAt (w : World) (b n : Nat) (l : List (Bs × Bool)) : Prop := ∃ D : DU, w.ownsMap Tryz.prog 9 (plainElem Tryz.prog 4) b n D ∧ MB D l
theorem SeenAt.new (w : World) : SeenAt (w.alloc (.map #[] 0)) w.heap.size 0 [] := ⟨_, World.ownsMap_made _ _ _ _, MB.nil⟩
theorem SeenAt.lt {w : World} {b n : Nat} {l : List (Bs × Bool)} (h : SeenAt w b n l) : b < w.heap.size := by
  obtain ⟨D, h1, _⟩ := h
  exact h1.lt
theorem SeenAt.same {w w' : World} {b n : Nat} {l : List (Bs × Bool)} (h : SeenAt w b n l) (hb : w'.heap[b]? = w.heap[b]?) : SeenAt w' b n l := by
  obtain ⟨D, ⟨es, clock, h1, F, hs, hD⟩, h2⟩ := h
  exact ⟨D, ⟨es, clock, hb.trans h1, F, hs, hD⟩, h2⟩
theorem SeenAt.below {w w' : World} {b n : Nat} {l : List (Bs × Bool)} (h : SeenAt w b n l) (hb : Below w.heap.size w w') : SeenAt w' b n l := h.same (hb.block b h.lt)
theorem SeenAt.look {w : World} {b n : Nat} {l : List (Bs × Bool)} (h : SeenAt w b n l) (s : ByteArray) (hs : s.size ≤ maxLen) :
    ∃ y ok : Bool, (Instr.lookup 45 (.map (some b)) (.string s) true).run Tryz.prog w = .ok (.tuple #[.bool y, .bool ok]) w ∧ (y = true → (s.data.toList, true) ∈ l) ∧ (ok = false → ∀ x, (s.data.toList, x) ∉ l) := by
  obtain ⟨D, h1, h2⟩ := h
  obtain ⟨v, ps, hrun, hv⟩ := h1.look_ok keyed9 Tryz.underlying45 (zero4 w) (plainElem_bool Tryz.underlying4 false) (keyOf_string_mk (s := s) Tryz.underlying9 hs)
  obtain ⟨y, rfl, hy⟩ := plainElem_bool_inv Tryz.underlying4 hv
  exact ⟨y, _, hrun, fun e => h2.at (congrArg Prod.fst hy) e, fun e => h2.miss e⟩
theorem SeenAt.at {w : World} {b n : Nat} {l : List (Bs × Bool)} (h : SeenAt w b n l) (s : ByteArray) (hs : s.size ≤ maxLen) :
    ∃ y : Bool, (Instr.lookup 45 (.map (some b)) (.string s) false).run Tryz.prog w = .ok (.bool y) w ∧ (y = false → ∀ x, (s.data.toList, x) ∈ l → (s.data.toList, false) ∈ l) := by
  obtain ⟨D, h1, h2⟩ := h
  obtain ⟨v, ps, hrun, hv⟩ := h1.lookup keyed9 Tryz.underlying45 (zero4 w) (plainElem_bool Tryz.underlying4 false) (keyOf_string_mk (s := s) Tryz.underlying9 hs)
  obtain ⟨y, rfl, hy⟩ := plainElem_bool_inv Tryz.underlying4 hv
  exact ⟨y, hrun, fun e => by subst e; exact h2.at_all (congrArg Prod.fst hy)⟩
/-- Only block b has changed (and new blocks). -/
structure TurnB (w w' : World) (b : Nat) : Prop where
  os : w'.os = w.os
  tape : w'.tape = w.tape
  output : w'.output = w.output
  size : w'.heap.size = w.heap.size
  block : ∀ k, k ≠ b → w'.heap[k]? = w.heap[k]?
theorem SeenAt.put {w : World} {b n : Nat} {l : List (Bs × Bool)} (h : SeenAt w b n l) (s : ByteArray) (hs : s.size ≤ maxLen) (hn : n < maxLen) (y : Bool) :
    ∃ w', (Instr.mapUpdate 45 (.map (some b)) (.string s) (.bool y)).run Tryz.prog w = .ok () w' ∧ SeenAt w' b (n + 1) ((s.data.toList, y) :: l) ∧ TurnB w w' b := by
  obtain ⟨D, h1, h2⟩ := h
  obtain ⟨w', hrun, h3, h4⟩ := h1.store keyed9 Tryz.underlying45 hn (keyOf_string_mk (s := s) Tryz.underlying9 hs) (plainElem_bool Tryz.underlying4 y)
  refine ⟨w', hrun, ⟨_, h3, h2.put _ _⟩, ?_⟩
  obtain ⟨es, clock, es', clock', hb, rfl⟩ := h4
  exact ⟨rfl, rfl, rfl, by simp [setBlock], fun k hk => heap_setBlock_other hb _ hk⟩
theorem TurnB.below {w0 w w' : World} {b B : Nat} (h : TurnB w w' b) (hb : Below B w0 w) (hB : B ≤ b) : Below B w0 w' :=
  hb.trans ⟨h.os, h.tape, h.output, by rw [h.size]; exact Nat.le_refl _, fun k hk => h.block k (by omega)⟩
theorem SeenAt.iff {w : World} {b n : Nat} {l l' : List (Bs × Bool)} (h : SeenAt w b n l) (he : ∀ p, p ∈ l' ↔ p ∈ l) : SeenAt w b n l' := by
  obtain ⟨D, h1, h2⟩ := h
  refine ⟨D, h1, h2.map, fun s hs => ?_, fun p hp => h2.all p ((he p).1 hp)⟩
  obtain ⟨x, h3, h4⟩ := h2.hit s hs
  exact ⟨x, (he _).2 h3, h4⟩

end Go.Proofs.YtfppgplboomdbaaGreatDoor
