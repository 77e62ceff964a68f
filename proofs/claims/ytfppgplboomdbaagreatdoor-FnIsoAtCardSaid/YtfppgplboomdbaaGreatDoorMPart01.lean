/- Part of the proofs of laws.FnIsoTree and laws.FnIsoAt: lemmas and contracts of functions that the two laws reach, each under the hypotheses that its own statement names. -/
import Derived.Test.YtfppgplboomdbaaGreatDoorMB5
import Derived.Deep.MidRow
import Derived.RowKit3
import Derived.Laws.StructEq
namespace Go.Proofs.YtfppgplboomdbaaGreatDoor
open Go.RowKit

/-- What an append onto an owned slice leaves. -/
structure AppLeft (w : World) (B size n m : Nat) (v : Value) (xs news : List Value) (v' : Value) (w' : World) : Prop where
  own : OwnS w' B size v' (n + m) (xs ++ news)
  below : Below B w w'
  grew : w.heap.size ≤ w'.heap.size
  other : ∀ k, k < w.heap.size → v.ownBlock ≠ some k → w'.heap[k]? = w.heap[k]?
  block : ∀ k, v'.ownBlock = some k → v.ownBlock = some k ∨ w.heap.size ≤ k
  old : ∀ k j, v.ownBlock = some k → j < n * size → w'.cell? ⟨k, j, none⟩ = w.cell? ⟨k, j, none⟩
/-- append onto an owned slice, as one step of a region that draws. -/
theorem step_append_ownS {P : Program} {w : World} {ops : Array Oper} {o : Oper} {a : Act} {K : Act → World → Prop} {Q : Exit → Act → World → Prop} {E : Prop}
    (hg : o.guard = none) (s x : Operand) (t : TypeId) (hop : o.op = Op.call { callee := Callee.builtin Builtin.append, args := #[s, x], argTypes := #[t, t] })
    (B : Nat) (e : TypeId) (i : TypeInfo) (z : Value) (size bytes : Nat) (h1 : P.underlying t = some (.slice e)) (h2 : P.info? e = some i) (h3 : i.zero = some z) (h4 : i.size = size) (h5 : i.bytes = bytes) (h6 : z.cells.size = size) (h7 : 0 < size)
    (v : Value) (n : Nat) (xs : List Value) (hs : a.eval s = v) (hown : OwnS w B size v n xs)
    (ad : Addr) (m c : Nat) (news : List Value) (hx : a.eval x = .slice (some ad) m c) (hn : news.length = m * size) (hc : ∀ j u, news[j]? = some u → w.cell? (ad.add j) = some u) (h1c : ∀ u ∈ news, u.oneCell' = true) (_hm : 0 < m)
    (b1 : n + m ≤ maxLen) (b2 : (n + m) * bytes ≤ 140737488355328) (hB : B ≤ w.heap.size)
    (hK : ∀ v' w', AppLeft w B size n m v xs news v' w' → K (a.put o.dst v') w') :
    if Region.wanted o (yielded ops a.tmps) = true then Oper.wp P o a w K Q else E := by
  have hw : Region.wanted o (yielded ops a.tmps) = true := by simp [Region.wanted, hg]
  rw [if_pos hw]
  -- through the law for the walk, at a list of one operation
  have key : wpList P ops (fun e a' w' => match e with | .normal => K a' w' | _ => True) [o] a w → True := fun _ => trivial
  clear key
  have grown : ∀ v' w', w'.ownsRow w.heap.size e size v' (n + m) (xs ++ news) → w.grownBy w' none → K (a.put o.dst v') w' := fun v' w' ho hg => by
    refine hK v' w' ⟨(OwnS.of_row ho).mono hB, ⟨hg.os, hg.tape, hg.output, hg.size, fun k hk => hg.block k (by omega) (by simp)⟩, hg.size, fun k hk _ => hg.block k hk (by simp), fun k hk => .inr ?_, fun k j hk hj => ?_⟩
    · exact (ho.lt k hk).1
    · refine World.cell?_of_block (a := ⟨k, j, none⟩) (hg.block k ?_ (by simp))
      obtain ⟨_, ⟨rfl, _⟩ | ⟨g', cap', rfl, _, hl', _⟩⟩ := hown
      · simp [Value.ownBlock] at hk
      · simp [Value.ownBlock] at hk; subst hk; exact hl'
  obtain ⟨hl, ⟨rfl, rfl⟩ | ⟨g, cap, rfl, hgB, hlt, hnc, hcm, hcell, hspare⟩⟩ := hown
  · obtain rfl : xs = [] := List.eq_nil_of_length_eq_zero (by simpa using hl)
    obtain ⟨v', w', hrun, r1, r2, _⟩ := run_append_own (P := P) w w.heap.size t o.type e i z size bytes h1 h2 h3 h4 h5 h6 h7 (.slice none 0 0) 0 [] (World.ownsRow_nil w _ e size) ad m c news hn hc h1c b1 b2 (Nat.le_refl _)
    unfold Oper.wp
    simp [execOp, hop, resolve, invoke, builtin, hs, hx, hrun, Result.andThen]
    exact grown v' w' (by simpa using r1) r2
  · by_cases hr : n + m ≤ cap
    · subst h4
      have hle : (n + m) * i.size ≤ cap * i.size := Nat.mul_le_mul_right _ hr
      have hnm : (n + m) * i.size = n * i.size + m * i.size := Nat.add_mul _ _ _
      have hin : ∀ j, j < news.length → (w.cell? ⟨g, n * i.size + j, none⟩).isSome = true := fun j hj => (hspare _ (by omega)).1
      have hrun := run_append_room_cells (P := P) w t o.type e i h1 h2 g 0 n cap ad m c news hn hc h1c hr (fun j hj => by rw [Nat.zero_add]; exact (hspare _ (by omega)).1) (fun j hj => by rw [Nat.zero_add]; exact (hspare _ (by omega)).2)
      rw [Nat.zero_add] at hrun
      unfold Oper.wp
      simp [execOp, hop, resolve, invoke, builtin, hs, hx, hrun, Result.andThen]
      refine hK _ _ ⟨⟨by simp [hl, hn, Nat.add_mul], .inr ⟨g, cap, rfl, hgB, by rw [setCells_size]; exact hlt, hr, hcm, fun j u hu => ?_, fun j hb => ?_⟩⟩, ⟨(setCells_rest _ _ _ _).1, (setCells_rest _ _ _ _).2.1, (setCells_rest _ _ _ _).2.2, by rw [setCells_size]; exact Nat.le_refl _, fun k hk => setCells_block _ _ _ _ _ (by omega)⟩, by rw [setCells_size]; exact Nat.le_refl _, fun k hk hne => setCells_block _ _ _ _ _ (fun e => hne (by simp [Value.ownBlock, e])), fun k hk => .inl hk, fun k j hk hj => by simp [Value.ownBlock] at hk; subst hk; exact World.cell?_setCells_out _ _ _ _ _ (fun _ _ => .inl (by show j < n * i.size; omega))⟩
      · by_cases hj : j < xs.length
        · rw [List.getElem?_append_left hj] at hu
          rw [World.cell?_setCells_out _ _ _ _ _ (fun _ _ => .inl (by show j < n * i.size; omega))]
          exact hcell j u hu
        · rw [List.getElem?_append_right (by omega)] at hu
          obtain ⟨hj2, hu2⟩ := List.getElem?_eq_some_iff.1 hu
          have := World.cell?_setCells_in g news (n * i.size) w hin (j - xs.length) hj2
          rw [hu2] at this
          have e : n * i.size + (j - xs.length) = j := by omega
          rw [e] at this; exact this
      · rw [World.frozen?_setCells]
        refine ⟨?_, (hspare j hb).2⟩
        by_cases hj1 : j < n * i.size
        · rw [World.cell?_setCells_out _ _ _ _ _ (fun _ _ => .inl (by show j < n * i.size; omega))]
          exact (hspare j hb).1
        · by_cases hj2 : j < n * i.size + news.length
          · have := World.cell?_setCells_in g news (n * i.size) w hin (j - n * i.size) (by omega)
            have e : n * i.size + (j - n * i.size) = j := by omega
            rw [e] at this; rw [this]; rfl
          · rw [World.cell?_setCells_out _ _ _ _ _ (fun _ _ => .inr (by show n * i.size + news.length ≤ j; omega))]
            exact (hspare j hb).1
    · obtain ⟨v', w', hrun, r1, r2⟩ := run_append_arg_grows (P := P) w t o.type e i z size bytes h1 h2 h3 h4 h5 h6 h7 ⟨g, 0, none⟩ n cap xs hl (fun j u hj => by rw [Addr.add_lit, Nat.zero_add]; exact hcell j u hj) ad m c news hn hc (by omega) b1 b2
      unfold Oper.wp
      simp [execOp, hop, resolve, invoke, builtin, hs, hx, hrun, Result.andThen]
      exact grown v' w' r1 r2
/-- The same where the region does not draw. -/
theorem wpList_append_ownS' {P : Program} {w : World} {ops : Array Oper} {rest : List Oper} {o : Oper} {a : Act} {Q : Exit → Act → World → Prop}
    (hg : o.guard = none) (s x : Operand) (t : TypeId) (hop : o.op = Op.call { callee := Callee.builtin Builtin.append, args := #[s, x], argTypes := #[t, t] })
    (B : Nat) (e : TypeId) (i : TypeInfo) (z : Value) (size bytes : Nat) (h1 : P.underlying t = some (.slice e)) (h2 : P.info? e = some i) (h3 : i.zero = some z) (h4 : i.size = size) (h5 : i.bytes = bytes) (h6 : z.cells.size = size) (h7 : 0 < size)
    (v : Value) (n : Nat) (xs : List Value) (hs : a.eval s = v) (hown : OwnS w B size v n xs)
    (ad : Addr) (m c : Nat) (news : List Value) (hx : a.eval x = .slice (some ad) m c) (hn : news.length = m * size) (hc : ∀ j u, news[j]? = some u → w.cell? (ad.add j) = some u) (h1c : ∀ u ∈ news, u.oneCell' = true) (hm : 0 < m)
    (b1 : n + m ≤ maxLen) (b2 : (n + m) * bytes ≤ 140737488355328) (hB : B ≤ w.heap.size)
    (hK : ∀ v' w', AppLeft w B size n m v xs news v' w' → wpList P ops Q rest (a.put o.dst v') w') :
    wpList P ops Q (o :: rest) a w := by
  refine wpList_plain hg fun K hK' => ?_
  have := step_append_ownS (P := P) (ops := ops) (K := K) (Q := Q) (E := True) hg s x t hop B e i z size bytes h1 h2 h3 h4 h5 h6 h7 v n xs hs hown ad m c news hx hn hc h1c hm b1 b2 hB (fun v' w' h => hK' _ _ (hK v' w' h))
  have hw : Region.wanted o (yielded ops a.tmps) = true := by simp [Region.wanted, hg]
  rwa [if_pos hw] at this

theorem OwnS.cell {w : World} {B sz n cap g : Nat} {xs : List Value} (h : OwnS w B sz (.slice (some ⟨g, 0, none⟩) n cap) n xs) {j : Nat} {u : Value} (hu : xs[j]? = some u) : w.cell? ⟨g, j, none⟩ = some u := by
  obtain ⟨_, ⟨h2, _⟩ | ⟨g', cap', e, _, _, _, _, hx, _⟩⟩ := h
  · cases h2
  · cases e; exact hx j u hu
theorem OwnS.free {w : World} {B sz n cap g : Nat} {xs : List Value} (h : OwnS w B sz (.slice (some ⟨g, 0, none⟩) n cap) n xs) {j : Nat} (hj : j < n * sz) : w.frozen? ⟨g, j, none⟩ = false := by
  obtain ⟨_, ⟨h2, _⟩ | ⟨g', cap', e, _, _, hn, _, _, hs⟩⟩ := h
  · cases h2
  · cases e
    have : n * sz ≤ cap * sz := Nat.mul_le_mul_right _ hn
    exact (hs j (by omega)).2
theorem OwnS.lt {w : World} {B sz n cap g : Nat} {xs : List Value} (h : OwnS w B sz (.slice (some ⟨g, 0, none⟩) n cap) n xs) : g < w.heap.size ∧ B ≤ g := by
  obtain ⟨_, ⟨h2, _⟩ | ⟨g', cap', e, hB, hl, _⟩⟩ := h
  · cases h2
  · cases e; exact ⟨hl, hB⟩
theorem OwnS.store {w : World} {B sz n cap g : Nat} {xs : List Value} (h : OwnS w B sz (.slice (some ⟨g, 0, none⟩) n cap) n xs) (j : Nat) (hj : j < n * sz) (u : Value) :
    OwnS (w.setCell ⟨g, j, none⟩ u) B sz (.slice (some ⟨g, 0, none⟩) n cap) n (xs.set j u) := by
  obtain ⟨h1, ⟨h2, _⟩ | ⟨g', cap', e, hB, hl, hn, hc, hx, hs⟩⟩ := h
  · cases h2
  · cases e
    have hle : n * sz ≤ cap * sz := Nat.mul_le_mul_right _ hn
    have hsame : (w.setCell ⟨g, j, none⟩ u).cell? ⟨g, j, none⟩ = some u := by
      have := World.cell?_setCells_in g [u] j w (fun k hk => by have : k = 0 := by simp at hk; exact hk
                                                                subst this; exact (hs j (by omega)).1) 0 (by simp)
      simpa [World.setCells] using this
    have hoth : ∀ k, k ≠ j → (w.setCell ⟨g, j, none⟩ u).cell? ⟨g, k, none⟩ = w.cell? ⟨g, k, none⟩ := fun k hk => by
      have := World.cell?_setCells_out g [u] j w ⟨g, k, none⟩ (fun _ _ => by show k < j ∨ j + 1 ≤ k; omega)
      simpa [World.setCells] using this
    have hfr : ∀ k, (w.setCell ⟨g, j, none⟩ u).frozen? ⟨g, k, none⟩ = w.frozen? ⟨g, k, none⟩ := fun k => by
      simp
    refine ⟨by simp [h1], .inr ⟨g, cap, rfl, hB, by simpa [World.setCell] using hl, hn, hc, fun k v hv => ?_, fun k hk => ?_⟩⟩
    · by_cases e : k = j
      · subst e
        rw [List.getElem?_set_self (by omega)] at hv
        cases hv; exact hsame
      · rw [List.getElem?_set_ne (Ne.symm e)] at hv
        rw [hoth k e]; exact hx k v hv
    · rw [hfr]
      refine ⟨?_, (hs k hk).2⟩
      by_cases e : k = j
      · subst e; rw [hsame]; rfl
      · rw [hoth k e]; exact (hs k hk).1

structure FileD where
  path : ByteArray
  dir : Bool
  data : ByteArray
  target : ByteArray
  perm : Int
  uid : Int
  gid : Int
  time : Int
def fcells (f : FileD) : List Value := [.string f.path, .bool f.dir, .string f.data, .string f.target, .int .u32 f.perm, .int .u32 f.uid, .int .u32 f.gid, .int .i64 f.time]
structure Nd where
  f : FileD
  id : ByteArray
  parent : Nat
  ext : Int
  size : Int
  number : Int
  level : Int
def ncells (d : Nd) (kv : Value) : List Value :=
  [.string d.f.path, .bool d.f.dir, .string d.f.data, .string d.f.target, .int .u32 d.f.perm, .int .u32 d.f.uid, .int .u32 d.f.gid, .int .i64 d.f.time,
   .string d.id, .int .i64 d.parent, kv, .int .u32 d.ext, .int .u32 d.size, .slice none 0 0, .slice none 0 0, .int .u32 0, .int .i64 d.number, .int .i64 d.level]
def nodesL (nd : Nat → Nd) (kv : Nat → Value) (n : Nat) : List Value := (List.range n).flatMap fun i => ncells (nd i) (kv i)
theorem nodesL_zero (nd : Nat → Nd) (kv : Nat → Value) : nodesL nd kv 0 = [] := rfl
theorem nodesL_succ (nd : Nat → Nd) (kv : Nat → Value) (n : Nat) : nodesL nd kv (n + 1) = nodesL nd kv n ++ ncells (nd n) (kv n) := by
  simp [nodesL, List.range_succ]
theorem ncells_length (d : Nd) (kv : Value) : (ncells d kv).length = 18 := rfl
theorem nodesL_length (nd : Nat → Nd) (kv : Nat → Value) (n : Nat) : (nodesL nd kv n).length = n * 18 := by
  induction n with
  | zero => rfl
  | succ n ih => rw [nodesL_succ, List.length_append, ih, ncells_length]; omega
theorem nodesL_get (nd : Nat → Nd) (kv : Nat → Value) (n i k : Nat) (hi : i < n) (hk : k < 18) : (nodesL nd kv n)[i * 18 + k]? = (ncells (nd i) (kv i))[k]? := by
  induction n with
  | zero => omega
  | succ n ih =>
    rw [nodesL_succ]
    by_cases h : i < n
    · rw [List.getElem?_append_left (by rw [nodesL_length]; omega)]; exact ih h
    · obtain rfl : i = n := by omega
      rw [List.getElem?_append_right (by rw [nodesL_length]; omega), nodesL_length]
      congr 1; omega
theorem nodesL_congr {nd nd' : Nat → Nd} {kv kv' : Nat → Value} {n : Nat} (h : ∀ i, i < n → nd i = nd' i ∧ kv i = kv' i) : nodesL nd kv n = nodesL nd' kv' n := by
  induction n with
  | zero => rfl
  | succ n ih => rw [nodesL_succ, nodesL_succ, ih (fun i hi => h i (by omega)), (h n (by omega)).1, (h n (by omega)).2]
theorem nodesL_set {nd nd' : Nat → Nd} {kv kv' : Nat → Value} {n p k : Nat} {u : Value} (hp : p < n) (hk : k < 18) (h1 : ∀ i, i ≠ p → nd' i = nd i ∧ kv' i = kv i) (h2 : ncells (nd' p) (kv' p) = (ncells (nd p) (kv p)).set k u) :
    nodesL nd' kv' n = (nodesL nd kv n).set (p * 18 + k) u := by
  apply List.ext_getElem?
  intro j
  have hj : j / 18 * 18 + j % 18 = j := by omega
  by_cases hlt : j < n * 18
  · have hi : j / 18 < n := by omega
    have hm : j % 18 < 18 := by omega
    rw [← hj, nodesL_get nd' kv' n _ _ hi hm]
    by_cases e : j / 18 = p
    · rw [e, h2]
      by_cases e2 : j % 18 = k
      · rw [e2, List.getElem?_set_self (by rw [ncells_length]; exact hk), List.getElem?_set_self (by rw [nodesL_length]; omega)]
      · rw [List.getElem?_set_ne (Ne.symm e2), List.getElem?_set_ne (by omega), nodesL_get nd kv n _ _ hp hm]
    · rw [(h1 _ e).1, (h1 _ e).2, List.getElem?_set_ne (by omega), nodesL_get nd kv n _ _ hi hm]
  · rw [List.getElem?_eq_none (by rw [nodesL_length]; omega), List.getElem?_eq_none (by rw [List.length_set, nodesL_length]; omega)]

def kidV (k : Nat) : Value := .int .i64 (k : Int)
/-- The kids of the first n nodes: slices of numbers, each in a block of its own, none in block g. -/
structure KidsOwn (w : World) (B g n : Nat) (ks : Nat → List Nat) (kv : Nat → Value) : Prop where
  own : ∀ i, i < n → OwnS w B 1 (kv i) (ks i).length ((ks i).map kidV)
  apart : ∀ i, i < n → (kv i).ownBlock ≠ some g
  each : ∀ i j b, i < n → j < n → i ≠ j → (kv i).ownBlock = some b → (kv j).ownBlock ≠ some b
theorem KidsOwn.kept {w w' : World} {B g n : Nat} {ks : Nat → List Nat} {kv : Nat → Value} (h : KidsOwn w B g n ks kv) (hb : ∀ i, i < n → ∀ b, (kv i).ownBlock = some b → w'.heap[b]? = w.heap[b]?) (hs : w.heap.size ≤ w'.heap.size) : KidsOwn w' B g n ks kv :=
  ⟨fun i hi => (h.own i hi).kept (hb i hi) hs, h.apart, h.each⟩
theorem OwnS.own_lt {w : World} {B sz n b : Nat} {v : Value} {xs : List Value} (h : OwnS w B sz v n xs) (hb : v.ownBlock = some b) : b < w.heap.size ∧ B ≤ b := by
  obtain ⟨_, ⟨rfl, _⟩ | ⟨g', cap', rfl, hB, hl, _⟩⟩ := h
  · simp [Value.ownBlock] at hb
  · simp [Value.ownBlock] at hb; subst hb; exact ⟨hl, hB⟩
theorem KidsOwn.below {w w' : World} {B g n : Nat} {ks : Nat → List Nat} {kv : Nat → Value} (h : KidsOwn w B g n ks kv) (hb : Below w.heap.size w w') : KidsOwn w' B g n ks kv :=
  h.kept (fun i hi _ e => hb.block _ ((h.own i hi).own_lt e).1) hb.size

end Go.Proofs.YtfppgplboomdbaaGreatDoor

namespace Go.Proofs.YtfppgplboomdbaaGreatDoor
open Go.RowKit

def Place (nd : Nat → Nd) (n : Nat) (d : ByteArray) (r : Int) : Prop := (r = -1 ∧ ∀ i, i < n → ¬ ((nd i).f.dir = true ∧ (nd i).f.path = d)) ∨ ∃ p, p < n ∧ r = p ∧ (nd p).f.dir = true ∧ (nd p).f.path = d

/-- The cells of node k, as a row. -/
theorem OwnS.node {w : World} {B n cap g : Nat} {nd : Nat → Nd} {kv : Nat → Value} (h : OwnS w B 18 (.slice (some ⟨g, 0, none⟩) n cap) n (nodesL nd kv n)) {k : Nat} (hk : k < n) : w.rangeAt g (k * 18) (ncells (nd k) (kv k)) := fun j v hv => by
  have hj : j < 18 := by
    rcases Nat.lt_or_ge j 18 with h | h
    · exact h
    · rw [List.getElem?_eq_none (by rw [ncells_length]; exact h)] at hv; cases hv
  exact h.cell (by rw [nodesL_get _ _ _ _ _ hk hj]; exact hv)
theorem beq_of {a b : ByteArray} (h : (a.toList == b.toList) = true) : a = b := by
  rw [ByteArray.toList_eq, ByteArray.toList_eq] at h
  exact bs_ext (by simpa using h)
theorem bne_of {a b : ByteArray} (h : (a.toList == b.toList) = false) : a ≠ b := by
  rintro rfl; simp at h
theorem ncells_one (d : Nd) (kv : Value) (h : kv.oneCell' = true) : (ncells d kv).toArray.all (·.oneCell') = true :=
  all_oneCell_toArray fun v hv => by
    simp [ncells] at hv
    rcases hv with rfl | rfl | rfl | rfl | rfl | rfl | rfl | rfl | rfl | rfl | rfl | rfl | rfl | rfl | rfl | rfl | rfl | rfl <;> first | rfl | exact h
theorem OwnS.one {w : World} {B sz n : Nat} {v : Value} {xs : List Value} (h : OwnS w B sz v n xs) : v.oneCell' = true := by
  obtain ⟨_, ⟨rfl, _⟩ | ⟨g', cap', rfl, _⟩⟩ := h <;> rfl
/-- What a store of a whole value into a fresh variable leaves. -/
structure Fresh (w0 : World) (cs : List Value) (w' : World) : Prop where
  range : w'.rangeAt w0.heap.size 0 cs
  below : Below w0.heap.size w0 w'
  size : w'.heap.size = w0.heap.size + 1
  there : w'.there w0.heap.size 0 cs.length
theorem there_alloc_new (w : World) (cells : Array Value) (t : TypeId) (n : Nat) (hn : n = cells.size) : (w.alloc (.cells cells t)).there w.heap.size 0 n := fun j hj => by
  subst hn
  refine ⟨?_, ?_⟩
  · simp [hj]
  · rw [frozen?_alloc_cells]; unfold World.frozen?; rw [Array.getElem?_eq_none (Nat.le_refl _)]
theorem wpList_store_fresh {P : Program} {ops : Array Oper} {rest : List Oper} {op : Oper} {a : Act} {w0 : World} {Q : Exit → Act → World → Prop} (hgd : op.guard = none) (ty : TypeId) (x y : Operand) (ho : op.op = .store ty x y)
    (zs : Array Value) (t : TypeId) (cells : Array Value) (hx : a.eval x = .pointer (some ⟨w0.heap.size, 0, none⟩)) (hy : a.eval y = .agg cells)
    (hz : cells.size = zs.size) (hi : (P.info? ty).map (·.size) = some cells.size) (h1 : cells.all (·.oneCell') = true)
    (h : ∀ w', Fresh w0 cells.toList w' → wpList P ops Q rest (a.put op.dst undef) w') : wpList P ops Q (op :: rest) a (w0.alloc (.cells zs t)) := by
  have ht := there_alloc_new w0 zs t cells.size hz
  refine wpList_store_mid hgd ty x y ho _ 0 cells hx hy ht hi h1 (h _ ⟨World.rangeAt_setCells_same _ _ _ _ (by simpa using ht), ?_, ?_, ?_⟩)
  · exact ((Below.refl w0.heap.size w0).alloc (Nat.le_refl _) (Obj.cells zs t)).trans ⟨(setCells_rest _ _ _ _).1, (setCells_rest _ _ _ _).2.1, (setCells_rest _ _ _ _).2.2, by rw [setCells_size]; exact Nat.le_refl _, fun k hk => setCells_block _ _ _ _ _ (by omega)⟩
  · rw [setCells_size]; simp
  · exact World.there_setCells (by simpa using ht) _ _ _

set_option maxHeartbeats 2000000 in
set_option maxRecDepth 100000 in
theorem isoPlace_any (g n cap : Nat) (nd : Nat → Nd) (kv : Nat → Value) (d : ByteArray) (w : World) (B : Nat) (hn : n ≤ 100000) (hown : OwnS w B 18 (.slice (some ⟨g, 0, none⟩) n cap) n (nodesL nd kv n)) (hkv : ∀ i, i < n → (kv i).oneCell' = true) :
    Calls Tryz.prog 33 #[.slice (some ⟨g, 0, none⟩) n cap, .string d] w fun e w' => (∃ r : Int, e = .returned (.int .i64 r) ∧ Place nd n d r) ∧ Below w.heap.size w w' := by
  have HO := Lib.hid hown
  have HK := Lib.hid hkv
  have hglt := hown.lt.1
  clear hown hkv
  go_enter Tryz.func33, Tryz.ntmps33
  go_wp2
  go_loopw [9] (fun iv wr => ∃ k : Nat, k ≤ n ∧ iv = .int .i64 k ∧ (∀ i, i < k → ¬ ((nd i).f.dir = true ∧ (nd i).f.path = d)) ∧ Below w.heap.size w wr) (fun iv _ => n - (intOf iv).toNat)
  case atStart => exact ⟨0, Nat.zero_le _, rfl, fun i hi => by omega, Below.refl _ _⟩
  case round =>
    obtain ⟨k, hk, rfl, hno, hbel⟩ := hrel
    have HN := Lib.hid hno; clear hno
    have hsz := hbel.size
    by_cases hlt : k < n
    · have hcc : wr.rangeAt g (k * 18) (ncells (nd k) (kv k)) := fun j v hv => by
        rw [hbel.cell (p := ⟨g, k * 18 + j, none⟩) hglt]; exact HO.out.node hlt j v hv
      have HC := Lib.hid hcc; clear hcc
      have HB := Lib.hid hbel; clear hbel
      go_wp2_with (first
        | (refine wpList_load_mid rfl 61 (.tmp 12) rfl g (k * 18) rfl (ncells (nd k) (kv k)) _ HC.out Tryz.underlying61 rfl rfl ?_)
        | (refine wpList_store_fresh rfl 61 (.tmp 6) (.tmp 13) rfl _ 61 (ncells (nd k) (kv k)).toArray rfl rfl rfl rfl (ncells_one _ _ (HK.out k hlt)) ?_
           intro w' hF
           have hF0 := hF.range 0 _ rfl
           have hF1 := hF.range 1 _ rfl
           have HF := Lib.hid hF; clear hF))
      case roundEnd hd he =>
        refine ⟨⟨k + 1, hlt, rfl, fun i hi => ?_, HB.out.trans (HF.out.below.mono hsz)⟩, by simp [intOf]; omega⟩
        by_cases e : i = k
        · subst e; exact fun h => bne_of he h.2
        · exact HN.out i (by omega)
      case roundEnd hd =>
        refine ⟨⟨k + 1, hlt, rfl, fun i hi => ?_, HB.out.trans (HF.out.below.mono hsz)⟩, by simp [intOf]; omega⟩
        by_cases e : i = k
        · subst e; exact fun h => hd h.1
        · exact HN.out i (by omega)
      go_ret
      exact ⟨⟨_, rfl, .inr ⟨k, hlt, rfl, by assumption, beq_of (by assumption)⟩⟩, HB.out.trans (HF.out.below.mono hsz)⟩
    · go_wp2
      go_ret
      exact ⟨⟨_, rfl, .inl ⟨rfl, fun i hi => HN.out i (by omega)⟩⟩, hbel⟩

end Go.Proofs.YtfppgplboomdbaaGreatDoor
