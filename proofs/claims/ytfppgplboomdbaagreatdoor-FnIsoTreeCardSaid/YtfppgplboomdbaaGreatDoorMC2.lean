/- Part of the proofs of laws.FnIsoTree and laws.FnIsoAt: lemmas and contracts of functions that the two laws reach, each under the hypotheses that its own statement names. -/
import Derived.Test.YtfppgplboomdbaaGreatDoorMPart01
import Derived.Deep.RegionHeld3
import Derived.BigRegion
namespace Go.Proofs.YtfppgplboomdbaaGreatDoor
open Go.RowKit

def dirOf (f : FileD) : Bs := (baseL f.path.data.toList).1
def nameOf (f : FileD) : Bs := (baseL f.path.data.toList).2
def idOf (f : FileD) : Bs := if f.dir then nameOf f else nameOf f ++ [59, 49]
/-- The files lie in a block below B. -/
def FilesAt (w : World) (B : Nat) (p : Option Addr) (fs : List FileD) : Prop :=
  0 < fs.length → ∃ g o, p = some ⟨g, o, none⟩ ∧ g < B ∧ ∀ (k : Nat) (f : FileD), fs[k]? = some f → w.rangeAt g (o + k * 8) (fcells f)
structure PathsOK (fs : List FileD) : Prop where
  few : fs.length ≤ 100
  small : ∀ (k : Nat) (f : FileD), fs[k]? = some f → f.path.size ≤ 1000000
  name : ∀ (k : Nat) (f : FileD), fs[k]? = some f → nameOf f ≠ []
  dir : ∀ (k : Nat) (f : FileD), fs[k]? = some f → dirOf f = [] ∨ ∃ (j : Nat) (f' : FileD), j < k ∧ fs[j]? = some f' ∧ f'.dir = true ∧ f'.path.data.toList = dirOf f
def rootF : FileD := ⟨⟨#[]⟩, true, ⟨#[]⟩, ⟨#[]⟩, 493, 0, 0, 0⟩
def kidsOf (nd : Nat → Nd) (k p : Nat) : List Nat := (List.range' 1 k).filter fun j => (nd j).parent = p
structure Built (fs : List FileD) (nd : Nat → Nd) (ks : Nat → List Nat) (k : Nat) : Prop where
  root : (nd 0).f = rootF ∧ (nd 0).id = ⟨#[]⟩ ∧ (nd 0).parent = 0
  node : ∀ i, i < k → ∃ f, fs[i]? = some f ∧ (nd (i + 1)).f = f ∧ (nd (i + 1)).id.data.toList = idOf f ∧ (nd (i + 1)).parent ≤ i ∧ (nd (nd (i + 1)).parent).f.dir = true ∧ (nd (nd (i + 1)).parent).f.path.data.toList = dirOf f
  kids : ∀ p, p ≤ k → ks p = kidsOf nd k p
  level : ∀ i, i ≤ k → 0 ≤ (nd i).level ∧ (nd i).level ≤ i
  zero : ∀ i, i ≤ k → (nd i).ext = 0 ∧ (nd i).size = 0 ∧ (nd i).number = 0

theorem Tryz.i3 : (Tryz.prog.info? 3).map (fun i => (i.zero.map fun z => z.cells.size, i.size, i.bytes)) = some (some 1, 1, 8) := by kernel_rfl
theorem Tryz.i61 : (Tryz.prog.info? 61).map (fun i => (i.zero.map fun z => z.cells.size, i.size, i.bytes)) = some (some 18, 18, 208) := by kernel_rfl
theorem info_parts3 {P : Program} {t : TypeId} {n s b : Nat} (h : (P.info? t).map (fun i => (i.zero.map fun z => z.cells.size, i.size, i.bytes)) = some (some n, s, b)) : ∃ i z, P.info? t = some i ∧ i.zero = some z ∧ i.size = s ∧ i.bytes = b ∧ z.cells.size = n := by
  cases hi : P.info? t with
  | none => simp [hi] at h
  | some i =>
    cases hz : i.zero with
    | none => simp [hi, hz] at h
    | some z =>
      simp [hi, hz] at h
      exact ⟨i, z, rfl, hz, h.2.1, h.2.2, h.1⟩
theorem baseAt_len (l : Bs) : ∀ n, (baseAt l n).2.length ≤ l.length
  | 0 => by simp [baseAt]
  | n + 1 => by
    unfold baseAt
    split
    · simp
    · exact baseAt_len l n
theorem nameOf_len (f : FileD) : (nameOf f).length ≤ f.path.size := by
  have := baseAt_len f.path.data.toList f.path.data.toList.length
  simpa [nameOf, baseL] using this
theorem cell_ad {w : World} {a : Addr} {v : Value} (h : w.cell? a = some v) (o : Obj) : (w.alloc o).cell? a = some v := (World.cell?_alloc_lt _ _ _ (World.block_lt_of_cell? w _ h)).trans h
theorem row_at (w : World) (cs : List Value) (E : TypeId) : ∀ j u, cs[j]? = some u → (w.alloc (.cells cs.toArray E)).cell? ((⟨w.heap.size, 0, none⟩ : Addr).add j) = some u := fun j u hu => by
  rw [Addr.add_mid, Nat.zero_add, cell_of_row _ _ _ _ _ _ (heap_alloc_new w _)]
  simpa using hu
theorem OwnS.drew {w : World} {B sz n : Nat} {v : Value} {xs : List Value} (h : OwnS w B sz v n xs) : OwnS w.drew B sz v n xs := h
theorem one_nil : (Value.slice none 0 0).oneCell' = true := rfl
theorem rangeAt_below {w w' : World} {B g o : Nat} {cs : List Value} (h : w.rangeAt g o cs) (hb : Below B w w') (hg : g < B) : w'.rangeAt g o cs := fun j v hv => by
  rw [hb.cell (p := ⟨g, o + j, none⟩) hg]; exact h j v hv
theorem fcells_one (f : FileD) : (fcells f).toArray.all (·.oneCell') = true := by
  simp [fcells, Value.oneCell']
def nd0 : Nat → Nd := fun _ => ⟨rootF, ⟨#[]⟩, 0, 0, 0, 0, 0⟩
def kv0 : Nat → Value := fun _ => .slice none 0 0
theorem built0 (fs : List FileD) : Built fs nd0 (fun _ => []) 0 := ⟨⟨rfl, rfl, rfl⟩, fun i hi => by omega, fun p hp => rfl, fun i hi => ⟨by simp [nd0], by simp [nd0]⟩, fun i hi => ⟨rfl, rfl, rfl⟩⟩
theorem own_new (w : World) (B : Nat) (t : TypeId) (cs : List Value) (sz n : Nat) (hB : B ≤ w.heap.size) (hl : cs.length = n * sz) (hn : n ≤ maxLen) : OwnS (w.alloc (.cells cs.toArray t)) B sz (.slice (some ⟨w.heap.size, 0, none⟩) n n) n cs := by
  have ht := there_alloc_new w cs.toArray t (n * sz) (by simp [hl])
  refine ⟨hl, .inr ⟨w.heap.size, n, rfl, hB, by simp, Nat.le_refl _, hn, fun j u hu => ?_, fun j hj => by simpa using ht j hj⟩⟩
  rw [cell_of_row _ _ _ _ _ _ (heap_alloc_new w _)]
  simpa using hu
theorem KidsOwn.nil (w : World) (B g n : Nat) : KidsOwn w B g n (fun _ => []) kv0 := ⟨fun _ _ => OwnS.nil _ _ _, fun _ _ => by simp [kv0, Value.ownBlock], fun _ _ _ _ _ _ h => by simp [kv0, Value.ownBlock] at h⟩


def upd {α : Type} (f : Nat → α) (p : Nat) (x : α) : Nat → α := fun i => if i = p then x else f i
theorem upd_self {α : Type} (f : Nat → α) (p : Nat) (x : α) : upd f p x p = x := if_pos rfl
theorem upd_ne {α : Type} (f : Nat → α) {p i : Nat} (x : α) (h : i ≠ p) : upd f p x i = f i := if_neg h
theorem KidsOwn.app {w w' : World} {B g n q : Nat} {ks : Nat → List Nat} {kv : Nat → Value} {news : List Nat} {v' : Value} (h : KidsOwn w B g n ks kv) (hg : g < w.heap.size) (hq : q < n)
    (hA : AppLeft w B 1 (ks q).length news.length (kv q) ((ks q).map kidV) (news.map kidV) v' w') :
    KidsOwn w' B g n (upd ks q (ks q ++ news)) (upd kv q v') ∧ w'.heap[g]? = w.heap[g]? := by
  have hlt : ∀ i b, i < n → (kv i).ownBlock = some b → b < w.heap.size := fun i b hi e => ((h.own i hi).own_lt e).1
  refine ⟨⟨fun i hi => ?_, fun i hi => ?_, fun i j b hi hj hij hb => ?_⟩, hA.other g hg (h.apart q hq)⟩
  · by_cases e : i = q
    · subst e; rw [upd_self, upd_self]; have := hA.own; rw [← List.map_append, ← List.length_append] at this; exact this
    · rw [upd_ne _ _ e, upd_ne _ _ e]
      exact (h.own i hi).kept (fun b hb => hA.other b (hlt i b hi hb) (h.each i q b hi hq e hb)) hA.grew
  · by_cases e : i = q
    · subst e; rw [upd_self]; intro hb
      rcases hA.block g hb with h1 | h1
      · exact h.apart i hi h1
      · omega
    · rw [upd_ne _ _ e]; exact h.apart i hi
  · by_cases e : i = q
    · subst e; rw [upd_self] at hb; rw [upd_ne _ _ (Ne.symm hij)]
      intro hb2
      rcases hA.block b hb with h1 | h1
      · exact h.each i j b hi hj hij h1 hb2
      · have := hlt j b hj hb2; omega
    · rw [upd_ne _ _ e] at hb
      by_cases e2 : j = q
      · subst e2; rw [upd_self]; intro hb2
        rcases hA.block b hb2 with h1 | h1
        · exact h.each i j b hi hj hij hb h1
        · have := hlt i b hi hb; omega
      · rw [upd_ne _ _ e2]; exact h.each i j b hi hj hij hb
theorem KidsOwn.store {w : World} {B g n i len gi capi : Nat} {ks : Nat → List Nat} {kv : Nat → Value} (h : KidsOwn w B g n ks kv) (hi : i < n) (hkv : kv i = .slice (some ⟨gi, 0, none⟩) len capi) (hl : len = (ks i).length) (j : Nat) (hj : j < len) (x : Nat) :
    KidsOwn (w.setCell ⟨gi, j, none⟩ (kidV x)) B g n (upd ks i ((ks i).set j x)) kv := by
  subst hl
  refine ⟨fun p hp => ?_, h.apart, h.each⟩
  by_cases e : p = i
  · subst e
    rw [upd_self, hkv, List.length_set, List.map_set]
    have h1 := h.own p hi
    rw [hkv] at h1
    exact h1.store j (by omega) _
  · rw [upd_ne _ _ e]
    refine (h.own p hp).kept (fun b hb => Below.heap_setCell _ _ _ _ (fun eb => ?_)) (by simp [World.setCell])
    exact h.each i p gi hi hp (Ne.symm e) (by rw [hkv]; rfl) (by rw [hb]; exact congrArg some eb)
/-- What the sorting of the kids keeps. -/
structure KS (w wr : World) (g cap k : Nat) (nd : Nat → Nd) (kv : Nat → Value) (ks ks2 : Nat → List Nat) : Prop where
  perm : ∀ p, p ≤ k → (ks2 p).Perm (ks p)
  kids : KidsOwn wr w.heap.size g (k + 1) ks2 kv
  own : OwnS wr w.heap.size 18 (.slice (some ⟨g, 0, none⟩) (k + 1 : Nat) cap) (k + 1) (nodesL nd kv (k + 1))
  below : Below w.heap.size w wr
theorem KS.heap {w wr wr' : World} {g cap k : Nat} {nd : Nat → Nd} {kv : Nat → Value} {ks ks2 : Nat → List Nat} (h : KS w wr g cap k nd kv ks ks2) (he : wr'.heap = wr.heap) (hb : Below w.heap.size w wr') : KS w wr' g cap k nd kv ks ks2 :=
  ⟨h.perm, h.kids.kept (fun _ _ _ _ => by rw [he]) (by rw [he]; exact Nat.le_refl _), h.own.kept (fun _ _ => by rw [he]) (by rw [he]; exact Nat.le_refl _), hb⟩
theorem KS.swap {w wr : World} {g cap k i b b1 gi capi x y M : Nat} {nd : Nat → Nd} {kv : Nat → Value} {ks ks2 : Nat → List Nat} (h : KS w wr g cap k nd kv ks ks2) (hi : i < k + 1) (hkv : kv i = .slice (some ⟨gi, 0, none⟩) M capi) (hM : (ks2 i).length = M) (hb1 : b1 = b + 1) (hb : b1 < M) (hx : (ks2 i)[b1]? = some x) (hy : (ks2 i)[b]? = some y) :
    KS w ((wr.setCell ⟨gi, b1, none⟩ (kidV y)).setCell ⟨gi, b, none⟩ (kidV x)) g cap k nd kv ks (upd ks2 i (((ks2 i).set b1 y).set b x)) := by
  subst hM hb1
  have h1 := h.kids.store hi hkv rfl (b + 1) hb y
  have h2 := h1.store hi hkv (by rw [upd_self, List.length_set]) b (by omega) x
  rw [upd_self] at h2
  have hgi : gi ≠ g := fun e => h.kids.apart i hi (by rw [hkv, ← e]; rfl)
  have hu : upd (upd ks2 i ((ks2 i).set (b + 1) y)) i (((ks2 i).set (b + 1) y).set b x) = upd ks2 i (((ks2 i).set (b + 1) y).set b x) := by
    funext p; unfold upd; split <;> rfl
  rw [hu] at h2
  refine ⟨fun p hp => ?_, h2, h.own.kept (fun b' hb' => ?_) (by simp [World.setCell]), ?_⟩
  · by_cases e : p = i
    · subst e
      rw [upd_self]
      refine List.Perm.trans ?_ (h.perm p hp)
      obtain ⟨hx1, hx2⟩ := List.getElem?_eq_some_iff.1 hx
      obtain ⟨hy1, hy2⟩ := List.getElem?_eq_some_iff.1 hy
      rw [← hx2, ← hy2]
      exact List.set_set_perm hx1 hy1
    · rw [upd_ne _ _ e]; exact h.perm p hp
  · have e : g = b' := Option.some.inj hb'
    subst e
    rw [Below.heap_setCell _ _ _ _ (by simpa using Ne.symm hgi), Below.heap_setCell _ _ _ _ (by simpa using Ne.symm hgi)]
  · have hB : w.heap.size ≤ gi := ((h.kids.own i hi).own_lt (by rw [hkv]; rfl)).2
    exact (h.below.setCell (by exact hB) _).setCell (by exact hB) _
theorem Built.kid_le {fs : List FileD} {nd : Nat → Nd} {ks : Nat → List Nat} {k : Nat} (h : Built fs nd ks k) {p x : Nat} (hp : p ≤ k) (hx : x ∈ ks p) : x ≤ k ∧ 1 ≤ x := by
  rw [h.kids p hp, kidsOf] at hx
  have := (List.mem_filter.1 hx).1
  rw [List.mem_range'_1] at this
  omega
theorem Built.kid_len {fs : List FileD} {nd : Nat → Nd} {ks : Nat → List Nat} {k : Nat} (h : Built fs nd ks k) {p : Nat} (hp : p ≤ k) : (ks p).length ≤ k := by
  rw [h.kids p hp]
  refine Nat.le_trans (List.length_filter_le _ _) ?_
  rw [List.length_range']; exact Nat.le_refl _
theorem KidsOwn.grow {w : World} {B g g' n : Nat} {ks : Nat → List Nat} {kv : Nat → Value} (h : KidsOwn w B g n ks kv) (hg : ∀ i, i < n → (kv i).ownBlock ≠ some g') :
    KidsOwn w B g' (n + 1) (upd ks n []) (upd kv n (.slice none 0 0)) := by
  refine ⟨fun i hi => ?_, fun i hi => ?_, fun i j b hi hj hij hb => ?_⟩
  · by_cases e : i = n
    · subst e; rw [upd_self, upd_self]; exact OwnS.nil _ _ _
    · rw [upd_ne _ _ e, upd_ne _ _ e]; exact h.own i (by omega)
  · by_cases e : i = n
    · subst e; rw [upd_self]; simp [Value.ownBlock]
    · rw [upd_ne _ _ e]; exact hg i (by omega)
  · by_cases e : i = n
    · subst e; rw [upd_self] at hb; simp [Value.ownBlock] at hb
    · rw [upd_ne _ _ e] at hb
      by_cases e2 : j = n
      · subst e2; rw [upd_self]; simp [Value.ownBlock]
      · rw [upd_ne _ _ e2]; exact h.each i j b (by omega) (by omega) hij hb
theorem OwnS.pos {w : World} {B sz n : Nat} {v : Value} {xs : List Value} (h : OwnS w B sz v n xs) (hn : 0 < n) : ∃ g cap, v = .slice (some ⟨g, 0, none⟩) n cap := by
  obtain ⟨_, ⟨_, rfl⟩ | ⟨g', cap', rfl, _⟩⟩ := h
  · omega
  · exact ⟨_, _, rfl⟩
theorem nodesL_grow (nd : Nat → Nd) (kv : Nat → Value) (n : Nat) (x : Nd) (v : Value) : nodesL nd kv n ++ ncells x v = nodesL (upd nd n x) (upd kv n v) (n + 1) := by
  rw [nodesL_succ, upd_self, upd_self]
  congr 1
  exact nodesL_congr fun i hi => ⟨(upd_ne _ _ (by omega)).symm, (upd_ne _ _ (by omega)).symm⟩
theorem nodesL_kid (nd : Nat → Nd) (kv : Nat → Value) (n q : Nat) (v : Value) (hq : q < n) : (nodesL nd kv n).set (q * 18 + 10) v = nodesL nd (upd kv q v) n := by
  refine (nodesL_set hq (by omega) (fun i hi => ⟨rfl, upd_ne _ _ hi⟩) ?_).symm
  rw [upd_self]; rfl
theorem built_step {fs : List FileD} {nd : Nat → Nd} {ks : Nat → List Nat} {k q : Nat} {f : FileD} {id : ByteArray} (h : Built fs nd ks k) (hf : fs[k]? = some f) (hid : id.data.toList = idOf f) (hq : q ≤ k) (hd : (nd q).f.dir = true) (hp : (nd q).f.path.data.toList = dirOf f) :
    Built fs (upd nd (k + 1) ⟨f, id, q, 0, 0, 0, (nd q).level + 1⟩) (upd (upd ks (k + 1) []) q (ks q ++ [k + 1])) (k + 1) := by
  have hpar : ∀ p, kidsOf (upd nd (k + 1) ⟨f, id, q, 0, 0, 0, (nd q).level + 1⟩) (k + 1) p = kidsOf nd k p ++ if q = p then [k + 1] else [] := fun p => by
    unfold kidsOf
    rw [List.range'_concat, List.filter_append]
    congr 1
    · apply List.filter_congr
      intro j hj
      rw [List.mem_range'_1] at hj
      rw [upd_ne _ _ (by omega)]
    · have e : 1 + 1 * k = k + 1 := by omega
      rw [e]
      by_cases c : q = p
      · simp [upd_self, c]
      · simp [upd_self, c]
  refine ⟨?_, fun i hi => ?_, fun p hpk => ?_, fun i hi => ?_, fun i hi => ?_⟩
  · rw [upd_ne _ _ (by omega)]; exact h.root
  · by_cases e : i = k
    · subst e
      refine ⟨f, hf, ?_⟩
      rw [upd_self]
      refine ⟨rfl, hid, hq, ?_⟩
      show (upd nd (i + 1) _ q).f.dir = true ∧ _
      rw [upd_ne _ _ (by omega)]
      exact ⟨hd, hp⟩
    · obtain ⟨f', e1, e2, e3, e4, e5, e6⟩ := h.node i (by omega)
      refine ⟨f', e1, ?_⟩
      rw [upd_ne _ _ (by omega : i + 1 ≠ k + 1)]
      refine ⟨e2, e3, e4, ?_⟩
      rw [upd_ne _ _ (by omega)]
      exact ⟨e5, e6⟩
  · rw [hpar]
    by_cases e : p = q
    · subst e; rw [upd_self, if_pos rfl, h.kids p hq]
    · rw [upd_ne _ _ e, if_neg (Ne.symm e), List.append_nil]
      by_cases e2 : p = k + 1
      · subst e2; rw [upd_self]
        unfold kidsOf
        symm
        rw [List.filter_eq_nil_iff]
        intro j hj
        rw [List.mem_range'_1] at hj
        obtain ⟨_, _, _, _, e4, _⟩ := h.node (j - 1) (by omega)
        have ej : j - 1 + 1 = j := by omega
        rw [ej] at e4
        simp; omega
      · rw [upd_ne _ _ e2]; exact h.kids p (by omega)
  · by_cases e : i = k + 1
    · subst e; rw [upd_self]
      have := h.level q hq
      show 0 ≤ (nd q).level + 1 ∧ (nd q).level + 1 ≤ _
      omega
    · rw [upd_ne _ _ e]; exact h.level i (by omega)
  · by_cases e : i = k + 1
    · subst e; rw [upd_self]; exact ⟨rfl, rfl, rfl⟩
    · rw [upd_ne _ _ e]; exact h.zero i (by omega)
theorem place_of {fs : List FileD} {nd : Nat → Nd} {ks : Nat → List Nat} {k : Nat} {f : FileD} {r : Int} (hp : Place nd (k + 1) ⟨(dirOf f).toArray⟩ r) (hb : Built fs nd ks k) (ho : PathsOK fs) (hf : fs[k]? = some f) :
    ∃ q : Nat, q ≤ k ∧ r = q ∧ (nd q).f.dir = true ∧ (nd q).f.path.data.toList = dirOf f := by
  rcases hp with ⟨_, hno⟩ | ⟨q, hq, hr, h1, h2⟩
  · exfalso
    rcases ho.dir k f hf with h0 | ⟨j, f', hj, hf', hd, hpth⟩
    · exact hno 0 (by omega) (by rw [hb.root.1, h0]; exact ⟨rfl, rfl⟩)
    · obtain ⟨f2, e1, e2, _⟩ := hb.node j hj
      rw [hf'] at e1; cases e1
      exact hno (j + 1) (by omega) (by rw [e2]; exact ⟨hd, bs_ext hpth⟩)
  · exact ⟨q, by omega, hr, h1, by rw [h2]⟩

set_option maxHeartbeats 4000000 in
set_option maxRecDepth 100000 in
theorem isoNodes_any (p : Option Addr) (c : Nat) (fs : List FileD) (w : World) (hfs : FilesAt w w.heap.size p fs) (hok : PathsOK fs) :
    Calls Tryz.prog 19 #[.slice p fs.length c, .bool false] w fun e w' => ∃ g cap nd ks kv, e = .returned (.tuple #[.slice (some ⟨g, 0, none⟩) (fs.length + 1) cap, .bool true]) ∧
      OwnS w' w.heap.size 18 (.slice (some ⟨g, 0, none⟩) (fs.length + 1) cap) (fs.length + 1) (nodesL nd kv (fs.length + 1)) ∧ KidsOwn w' w.heap.size g (fs.length + 1) ks kv ∧
      (∃ ks0, Built fs nd ks0 fs.length ∧ ∀ i, i ≤ fs.length → (ks i).Perm (ks0 i)) ∧ Below w.heap.size w w' := by
  have HF := Lib.hid hfs
  have HP := Lib.hid hok
  have hfew := hok.few
  clear hfs hok
  generalize hN : fs.length = N at hfew ⊢
  have HN := Lib.hid hN; clear hN
  go_enter Tryz.func19, Tryz.ntmps19
  go_wp2
  go_loopw [6, 22] (fun vo iv wr => ∃ (k g cap : Nat) (nd : Nat → Nd) (ks : Nat → List Nat) (kv : Nat → Value), k ≤ N ∧ iv = .int .i64 k ∧ vo = .slice (some ⟨g, 0, none⟩) (k + 1 : Nat) cap ∧
      OwnS wr w.heap.size 18 (.slice (some ⟨g, 0, none⟩) (k + 1 : Nat) cap) (k + 1) (nodesL nd kv (k + 1)) ∧ KidsOwn wr w.heap.size g (k + 1) ks kv ∧ Built fs nd ks k ∧ Below w.heap.size w wr) (fun _ iv _ => N - (intOf iv).toNat)
  case atStart =>
    exact ⟨0, w.heap.size, 1, nd0, fun _ => [], kv0, Nat.zero_le _, rfl, rfl, own_new w _ _ (nodesL nd0 kv0 1) 18 1 (Nat.le_refl _) rfl (by decide), (KidsOwn.nil _ _ _ _), built0 fs, (Below.refl _ _).alloc (Nat.le_refl _) _⟩
  case round =>
    obtain ⟨k, g, cap, nd, ks, kv, hk, rfl, rfl, hown, hkids, hbuilt, hbel⟩ := hrel
    have HO := Lib.hid hown
    have HK := Lib.hid hkids
    have HBu := Lib.hid hbuilt
    have hglt := hown.lt.1
    have hgB := hown.lt.2
    clear hown hkids hbuilt
    have hsz := hbel.size
    by_cases hlt : k < N
    · obtain ⟨gf, of, rfl, hgf, hfc⟩ := HF.out (by rw [HN.out]; omega)
      obtain ⟨f, hf⟩ : ∃ f, fs[k]? = some f := ⟨fs[k]'(by rw [HN.out]; exact hlt), List.getElem?_eq_getElem _⟩
      have HFC := Lib.hid (rangeAt_below (hfc k f hf) hbel hgf)
      have Hf := Lib.hid hf
      have HB := Lib.hid hbel
      have hnl : (baseL f.path.data.toList).2.length ≤ 1000000 := Nat.le_trans (nameOf_len f) (HP.out.small k f hf)
      have hne : List.isEmpty (baseL f.path.data.toList).2 = false := by
        have := HP.out.name k f hf
        simpa [nameOf] using this
      clear hfc hf hbel
      go_wp2_with (first
        | (refine wpList_load_mid rfl 38 (.tmp 24) rfl gf (of + k * 8) rfl (fcells f) _ HFC.out Tryz.underlying38 rfl rfl ?_)
        | (refine wpList_store_fresh rfl 38 (.tmp 8) (.tmp 25) rfl _ 38 (fcells f).toArray rfl rfl rfl rfl (fcells_one f) ?_
           intro w1 hF1
           have hF10 := hF1.range 0 _ rfl
           have hF11 := hF1.range 1 _ rfl
           have HF1 := Lib.hid hF1; clear hF1)
        | (go_at_call 32; refine (base_any _ _ (HP.out.small k f Hf.out)).mono ?_; rintro e w2 ⟨rfl, hb2⟩)
        | (go_at_call 33; refine (isoPlace_any g (k + 1) cap nd kv ⟨(dirOf f).toArray⟩ w2 w.heap.size (by omega) ((HO.out.below HF1.out.below).below (hb2.mono (by rw [HF1.out.size]; omega))) (fun i hi => (HK.out.own i hi).one)).mono ?_
           rintro e w3 ⟨⟨r, rfl, hr⟩, hb3⟩
           obtain ⟨q, hq, rfl, hqd, hqp⟩ := place_of hr HBu.out HP.out Hf.out
           have HQd := Lib.hid hqd
           have HQp := Lib.hid hqp
           have hsz1 := HF1.out.size
           have hsz2 := hb2.size
           have hsz3 := hb3.size
           have h13 : Below (wr.heap.size + 1) w1 w3 := (hb2.mono (by omega)).trans (hb3.mono (by omega))
           have hx1 : w3.cell? ⟨wr.heap.size, 1, none⟩ = some (.bool f.dir) := (h13.cell (p := ⟨wr.heap.size, 1, none⟩) (Nat.lt_succ_self _)).trans hF11
           have HR3 := Lib.hid (rangeAt_below HF1.out.range h13 (Nat.lt_succ_self _))
           have HB3 := Lib.hid (HF1.out.below.trans (h13.mono (Nat.le_succ _)))
           have HO3 := Lib.hid (HO.out.below HB3.out)
           have HK3 := Lib.hid (HK.out.below HB3.out)
           have HB03 := Lib.hid (HB.out.trans (HB3.out.mono hsz))
           clear hqd hqp hr hF10 hF11 HF1 hb2 hb3 h13))
      all_goals (first
        | (generalize hid : ((ByteArray.mk (baseL f.path.data.toList).2.toArray) ++ ByteArray.mk #[59, 49]) = id
           have hidd : Hid (id.data.toList = idOf f) := by
             have hd : (!f.dir) = true := by assumption
             simp at hd; rw [Hid, ← hid]; unfold idOf nameOf; rw [hd]; simp)
        | (generalize hid : (ByteArray.mk ((baseL f.path.data.toList).2.toArray)) = id
           have hidd : Hid (id.data.toList = idOf f) := by
             have hd : (!f.dir) = false := by assumption
             simp at hd; rw [Hid, ← hid]; unfold idOf nameOf; rw [hd]; simp))
      all_goals (clear hid hne hnl hx1)
      all_goals (
        have hlv := (HBu.out.level q hq)
        have hlv1 := hlv.1
        have hlv2 := hlv.2
        clear hlv
        have hcl : w3.cell? ⟨g, q * 18 + 17, none⟩ = some (.int .i64 (nd q).level) := HO3.out.node (by omega) 17 _ rfl
        have hlw : IntKind.i64.wrap ((nd q).level + 1) = (nd q).level + 1 := wrap_small _ (by omega) (by omega)
        have hc0 : w3.cell? ⟨wr.heap.size, 0, none⟩ = some (.string f.path) := HR3.out 0 _ rfl
        have hc1 : w3.cell? ⟨wr.heap.size, 1, none⟩ = some (.bool f.dir) := HR3.out 1 _ rfl
        have hc2 : w3.cell? ⟨wr.heap.size, 2, none⟩ = some (.string f.data) := HR3.out 2 _ rfl
        have hc3 : w3.cell? ⟨wr.heap.size, 3, none⟩ = some (.string f.target) := HR3.out 3 _ rfl
        have hc4 : w3.cell? ⟨wr.heap.size, 4, none⟩ = some (.int .u32 f.perm) := HR3.out 4 _ rfl
        have hc5 : w3.cell? ⟨wr.heap.size, 5, none⟩ = some (.int .u32 f.uid) := HR3.out 5 _ rfl
        have hc6 : w3.cell? ⟨wr.heap.size, 6, none⟩ = some (.int .u32 f.gid) := HR3.out 6 _ rfl
        have hc7 : w3.cell? ⟨wr.heap.size, 7, none⟩ = some (.int .i64 f.time) := HR3.out 7 _ rfl
        have hg1 : g ≠ wr.heap.size := by omega
        have hg2 : g < w3.heap.size := by omega
        have hg3 : wr.heap.size < w3.heap.size := by omega
        have hg4 : wr.heap.size ≠ w3.heap.size := by omega
        have hqk : q < k + 1 := by omega
        have hqz : (q : Int) < (k : Int) + 1 := by omega
        obtain ⟨i61, z61, hi61, hz61, hs61, hb61, hc61⟩ := info_parts3 Tryz.i61
        go_region_held3 (fun w' => w'.cell? ⟨wr.heap.size, 0, none⟩ = some (.string f.path) ∧ w'.cell? ⟨wr.heap.size, 1, none⟩ = some (.bool f.dir) ∧ w'.cell? ⟨wr.heap.size, 2, none⟩ = some (.string f.data) ∧ w'.cell? ⟨wr.heap.size, 3, none⟩ = some (.string f.target) ∧ w'.cell? ⟨wr.heap.size, 4, none⟩ = some (.int .u32 f.perm) ∧ w'.cell? ⟨wr.heap.size, 5, none⟩ = some (.int .u32 f.uid) ∧ w'.cell? ⟨wr.heap.size, 6, none⟩ = some (.int .u32 f.gid) ∧ w'.cell? ⟨wr.heap.size, 7, none⟩ = some (.int .i64 f.time) ∧ w'.cell? ⟨g, q * 18 + 17, none⟩ = some (.int .i64 (nd q).level))
          (first
            | exact ⟨hc0, hc1, hc2, hc3, hc4, hc5, hc6, hc7, hcl⟩
            | exact ⟨hd0, hd1, hd2, hd3, hd4, hd5, hd6, hd7, hdl⟩
            | (refine ⟨?_,?_,?_,?_,?_,?_,?_,?_,?_⟩ <;> (refine cell_ad ?_ _; assumption))
            | go_keep)
          ((first
            | (refine step_append_ownS rfl (.tmp 55) (.tmp 66) 53 rfl w.heap.size 61 i61 z61 18 208 Tryz.underlying53 hi61 hz61 hs61 hb61 hc61 (by decide) (.slice (some ⟨g, 0, none⟩) (k + 1 : Nat) cap) (k + 1) _ rfl (HO3.out.alloc _).drew
                ⟨w3.heap.size, 0, none⟩ 1 1 (ncells ⟨f, id, q, 0, 0, 0, (nd q).level + 1⟩ (.slice none 0 0)) rfl rfl (row_at w3 _ 61) (fun u hu => (Array.all_eq_true_iff_forall_mem.1 (ncells_one _ _ one_nil)) u (by simpa using hu)) (by omega) (by unfold maxLen; omega) (by omega) (by simp; omega) ?_
               intro v4 w4 hA
               have hwo := hA.other wr.heap.size (by show wr.heap.size < (w3.alloc _).heap.size; simp; omega) (fun e => hg1 (Option.some.inj e))
               have hd0 : w4.cell? ⟨wr.heap.size, 0, none⟩ = some (.string f.path) := (World.cell?_of_block (a := ⟨wr.heap.size, 0, none⟩) hwo).trans (cell_ad hc0 _)
               have hd1 : w4.cell? ⟨wr.heap.size, 1, none⟩ = some (.bool f.dir) := (World.cell?_of_block (a := ⟨wr.heap.size, 1, none⟩) hwo).trans (cell_ad hc1 _)
               have hd2 : w4.cell? ⟨wr.heap.size, 2, none⟩ = some (.string f.data) := (World.cell?_of_block (a := ⟨wr.heap.size, 2, none⟩) hwo).trans (cell_ad hc2 _)
               have hd3 : w4.cell? ⟨wr.heap.size, 3, none⟩ = some (.string f.target) := (World.cell?_of_block (a := ⟨wr.heap.size, 3, none⟩) hwo).trans (cell_ad hc3 _)
               have hd4 : w4.cell? ⟨wr.heap.size, 4, none⟩ = some (.int .u32 f.perm) := (World.cell?_of_block (a := ⟨wr.heap.size, 4, none⟩) hwo).trans (cell_ad hc4 _)
               have hd5 : w4.cell? ⟨wr.heap.size, 5, none⟩ = some (.int .u32 f.uid) := (World.cell?_of_block (a := ⟨wr.heap.size, 5, none⟩) hwo).trans (cell_ad hc5 _)
               have hd6 : w4.cell? ⟨wr.heap.size, 6, none⟩ = some (.int .u32 f.gid) := (World.cell?_of_block (a := ⟨wr.heap.size, 6, none⟩) hwo).trans (cell_ad hc6 _)
               have hd7 : w4.cell? ⟨wr.heap.size, 7, none⟩ = some (.int .i64 f.time) := (World.cell?_of_block (a := ⟨wr.heap.size, 7, none⟩) hwo).trans (cell_ad hc7 _)
               have hdl : w4.cell? ⟨g, q * 18 + 17, none⟩ = some (.int .i64 (nd q).level) := (hA.old g _ rfl (by omega)).trans (cell_ad hcl _)
               clear hwo))))
      all_goals (clear hc0 hc1 hc2 hc3 hc4 hc5 hc6 hc7 hcl hd0 hd1 hd2 hd3 hd4 hd5 hd6 hd7 hdl hg1 hg2 hg3 hg4)
      all_goals (
        obtain ⟨g4, cap4, rfl⟩ := hA.own.pos (by omega)
        have hown4 := hA.own
        rw [nodesL_grow] at hown4
        have hkids4 : KidsOwn w4 w.heap.size g4 (k + 1 + 1) (upd ks (k + 1) []) (upd kv (k + 1) (.slice none 0 0)) := by
          have hlt3 : ∀ i b, i < k + 1 → (kv i).ownBlock = some b → b < w3.heap.size := fun i b hi e => ((HK3.out.own i hi).own_lt e).1
          have hw34 : ∀ b, b < w3.heap.size → b ≠ g → w4.heap[b]? = w3.heap[b]? := fun b hb hbg =>
            (hA.other b (by show b < (w3.alloc _).heap.size; simp; omega) (fun e => hbg (Option.some.inj e).symm)).trans (Below.heap_alloc w3 _ b hb)
          refine KidsOwn.grow (g := g) (HK3.out.kept (fun i hi b hb => hw34 b (hlt3 i b hi hb) (fun e => HK3.out.apart i hi (e ▸ hb))) (Nat.le_trans (by simp) hA.grew)) (fun i hi hb => ?_)
          have h1 := hlt3 i g4 hi hb
          rcases hA.block g4 rfl with h2 | h2
          · have e : g = g4 := Option.some.inj h2
            exact HK3.out.apart i hi (e ▸ hb)
          · have : w3.heap.size + 1 ≤ g4 := by
              have h3 : (w3.alloc _).heap.size ≤ g4 := h2
              simpa using h3
            omega
        have hb04 : Below w.heap.size w w4 := (HB03.out.alloc HB03.out.size _).drew.trans hA.below
        have hg4 := hown4.lt.1
        have hg4B := hown4.lt.2
        have hsz4 := hb04.size
        generalize hnd : upd nd (k + 1) ⟨f, id, q, 0, 0, 0, (nd q).level + 1⟩ = nd' at hown4
        generalize hks : upd ks (k + 1) [] = ks' at hkids4
        generalize hkv : upd kv (k + 1) (.slice none 0 0) = kv' at hown4 hkids4
        have hkl : (ks q).length ≤ 100 := by
          rw [HBu.out.kids q hq]
          refine Nat.le_trans (List.length_filter_le _ _) ?_
          rw [List.length_range']; omega
        have hbu := built_step HBu.out Hf.out hidd.out hq HQd.out HQp.out
        rw [hnd, hks] at hbu
        have hksq : ks' q = ks q := by rw [← hks]; exact upd_ne _ _ (by omega)
        have HKSQ := Lib.hid hksq
        have HO4 := Lib.hid hown4
        have HK4 := Lib.hid hkids4
        have HBU := Lib.hid hbu
        have HB04 := Lib.hid hb04
        clear hown4 hkids4 hbu hb04 hA hnd hks hkv hksq HB03 HK3 HO3 HB3 HR3 hidd HQp HQd HB Hf HFC HBu HK HO
        have hcq : w4.cell? ⟨g4, q * 18 + 10, none⟩ = some (kv' q) := HO4.out.node (by omega) 10 _ rfl
        obtain ⟨i3, z3, hi3, hz3, hs3, hb3', hc3⟩ := info_parts3 Tryz.i3
        have hksl : (ks' q).length ≤ 100 := by rw [HKSQ.out]; exact hkl
        go_wp2_with (first
          | (refine wpList_append_ownS' rfl (.tmp 74) (.tmp 78) 59 rfl w.heap.size 3 i3 z3 1 8 Tryz.underlying59 hi3 hz3 hs3 hb3' hc3 (by decide) (kv' q) (ks' q).length _ rfl ((HK4.out.own q (by omega)).alloc _)
                ⟨w4.heap.size, 0, none⟩ 1 1 ([k + 1].map kidV) rfl rfl (row_at w4 [kidV (k + 1)] 3) (fun u hu => by simp at hu; subst hu; rfl) (by omega) (by unfold maxLen; omega) (by omega) (by simp; omega) ?_
             intro v5 w5 hA5
             have hg4a : g4 < (w4.alloc (.cells [kidV (k + 1)].toArray 3)).heap.size := by simp; omega
             have hK5 := (HK4.out.below ((Below.refl _ w4).alloc (Nat.le_refl _) (.cells [kidV (k + 1)].toArray 3))).app (news := [k + 1]) hg4a (by omega) hA5
             have hw5 : w5.heap[g4]? = w4.heap[g4]? := hK5.2.trans (Below.heap_alloc w4 _ g4 hg4)
             have hB5 := (HB04.out.alloc hsz4 (.cells [kidV (k + 1)].toArray 3)).trans hA5.below
             have hO5 := HO4.out.kept (w' := w5) (fun b hb => by have e : g4 = b := Option.some.inj hb
                                                                 subst e; exact hw5) (Nat.le_trans (by simp) hA5.grew)
             obtain ⟨g5, cap5, rfl⟩ := hA5.own.pos (by omega)
             have hc5 : w5.cell? ⟨g4, q * 18 + 10, none⟩ = some (kv' q) := hO5.node (by omega) 10 _ rfl
             have hf5 : w5.frozen? ⟨g4, q * 18 + 10, none⟩ = false := hO5.free (by omega)
             have HK5 := Lib.hid hK5.1
             have HO5 := Lib.hid hO5
             have HB5 := Lib.hid hB5
             have hsz5 := hB5.size
             clear hA5 hg4a hK5 hw5 hB5 hO5))
        refine ⟨⟨k + 1, g4, cap4, nd', upd ks' q (ks' q ++ [k + 1]), upd kv' q (.slice (some ⟨g5, 0, none⟩) ((ks' q).length + 1 : Nat) cap5), by omega, rfl, rfl, ?_, ?_, ?_, HB5.out.setCell (by exact hg4B) _⟩, by simp [intOf]; omega⟩
        · have h := HO5.out.store (q * 18 + 10) (by omega) (.slice (some ⟨g5, 0, none⟩) ((ks' q).length + 1 : Nat) cap5)
          rw [nodesL_kid _ _ _ _ _ (by omega)] at h
          exact h
        · exact HK5.out.kept (fun i hi b hb => Below.heap_setCell _ _ _ _ (fun e => HK5.out.apart i hi (by rw [hb]; exact congrArg some e))) (by simp [World.setCell])
        · rw [HKSQ.out]; exact HBU.out)
    · obtain rfl : k = N := by omega
      have HB := Lib.hid hbel
      clear hbel HF HP
      go_wp2
      go_loopw [85] (fun iv wr2 => ∃ (i : Nat) (ks2 : Nat → List Nat), i ≤ k + 1 ∧ iv = .int .i64 i ∧ KS w wr2 g cap k nd kv ks ks2) (fun iv _ => k + 1 - (intOf iv).toNat)
      case atStart => exact ⟨0, ks, by omega, rfl, fun p _ => List.Perm.refl _, HK.out, HO.out, HB.out⟩
      case round =>
        obtain ⟨i, ks2, hi, rfl, hKS⟩ := hrel
        have HS := Lib.hid hKS
        clear hKS
        by_cases hlt2 : i < k + 1
        · obtain ⟨adi, capi, hkvi⟩ := (HS.out.kids.own i hlt2).slice
          have hM100 : (ks2 i).length ≤ 100 := by
            rw [(HS.out.perm i (by omega)).length_eq]
            exact Nat.le_trans (HBu.out.kid_len (by omega)) hfew
          generalize hM : (ks2 i).length = M at hkvi hM100
          have HM := Lib.hid hM
          clear hM
          have hc2 : wr.cell? ⟨g, i * 18 + 10, none⟩ = some (.slice adi M capi) := by rw [← hkvi]; exact HS.out.own.node hlt2 10 _ rfl
          have HKV := Lib.hid hkvi
          clear hkvi
          go_wp2
          clear hc2
          go_loopw [15] (fun iv wr2 => ∃ (a : Nat) (ks3 : Nat → List Nat), 1 ≤ a ∧ iv = .int .i64 a ∧ (ks3 i).length = M ∧ KS w wr2 g cap k nd kv ks ks3) (fun iv _ => M - (intOf iv).toNat)
          case atStart => exact ⟨1, ks2, by omega, rfl, HM.out, HS.out⟩
          case round =>
            obtain ⟨a, ks3, ha, rfl, hl3, hKS3⟩ := hrel
            have HS3 := Lib.hid hKS3
            have HL3 := Lib.hid hl3
            clear hKS3 hl3
            by_cases hlt3 : a < M
            · go_wp2
              go_loopw [16] (fun iv wr2 => ∃ (b : Nat) (ks4 : Nat → List Nat), b ≤ a ∧ iv = .int .i64 b ∧ (ks4 i).length = M ∧ KS w wr2 g cap k nd kv ks ks4) (fun iv _ => (intOf iv).toNat)
              case atStart => exact ⟨a, ks3, by omega, rfl, HL3.out, HS3.out⟩
              case round =>
                obtain ⟨b, ks4, hb, rfl, hl4, hKS4⟩ := hrel
                have HS4 := Lib.hid hKS4
                have HL4 := Lib.hid hl4
                clear hKS4 hl4
                rcases Nat.eq_zero_or_pos b with rfl | hb0
                · go_wp2
                  go_quiet (fail)
                  go_wp2
                  refine ⟨⟨a + 1, ks4, by omega, rfl, HL4.out, HS4.out.heap rfl (below_drewN HS4.out.below _)⟩, by simp [intOf]; omega⟩
                · obtain ⟨b', hbb⟩ : ∃ b', b = b' + 1 := ⟨b - 1, by omega⟩
                  have hlen : b < (ks4 i).length := by rw [HL4.out]; omega
                  have hbz : b < M := by omega
                  have hbz' : b' < M := by omega
                  have hbm : (b : Int) - 1 = (b' : Int) := by omega
                  obtain ⟨x, hx⟩ : ∃ x, (ks4 i)[b]? = some x := ⟨(ks4 i)[b], List.getElem?_eq_getElem hlen⟩
                  obtain ⟨y, hy⟩ : ∃ y, (ks4 i)[b']? = some y := ⟨(ks4 i)[b']'(by omega), List.getElem?_eq_getElem (by omega)⟩
                  have hxk : x < k + 1 := by
                    have := (HBu.out.kid_le (p := i) (by omega) ((HS4.out.perm i (by omega)).mem_iff.1 (List.mem_of_getElem? hx))).1
                    omega
                  have hyk : y < k + 1 := by
                    have := (HBu.out.kid_le (p := i) (by omega) ((HS4.out.perm i (by omega)).mem_iff.1 (List.mem_of_getElem? hy))).1
                    omega
                  have hown := HS4.out.kids.own i hlt2
                  rw [HKV.out, HL4.out] at hown
                  obtain ⟨gi, capi', e4⟩ := hown.pos (by omega)
                  obtain ⟨rfl, rfl⟩ : adi = some ⟨gi, 0, none⟩ ∧ capi = capi' := by cases e4; exact ⟨rfl, rfl⟩
                  have cx : wr.cell? ⟨gi, b, none⟩ = some (.int .i64 x) := hown.cell (by rw [List.getElem?_map, hx]; rfl)
                  have cy : wr.cell? ⟨gi, b', none⟩ = some (.int .i64 y) := hown.cell (by rw [List.getElem?_map, hy]; rfl)
                  have fx : wr.frozen? ⟨gi, b, none⟩ = false := hown.free (by omega)
                  have fy : wr.frozen? ⟨gi, b', none⟩ = false := hown.free (by omega)
                  have ix : wr.cell? ⟨g, x * 18 + 8, none⟩ = some (.string (nd x).id) := HS4.out.own.node hxk 8 _ rfl
                  have iy : wr.cell? ⟨g, y * 18 + 8, none⟩ = some (.string (nd y).id) := HS4.out.own.node hyk 8 _ rfl
                  have HSW := Lib.hid (HS4.out.swap hlt2 HKV.out HL4.out hbb (by omega) hx hy)
                  have HBB := Lib.hid hbb
                  have HX := Lib.hid hx
                  have HY := Lib.hid hy
                  clear hx hy hown e4 hbb
                  go_wp2
                  go_quiet (fail)
                  go_wp2
                  · have cx' : (wr.drewN nq).cell? ⟨gi, b, none⟩ = some (.int .i64 x) := cx
                    have cy' : (wr.drewN nq).cell? ⟨gi, b', none⟩ = some (.int .i64 y) := cy
                    have fx' : (wr.drewN nq).frozen? ⟨gi, b, none⟩ = false := fx
                    have fy' : (wr.drewN nq).frozen? ⟨gi, b', none⟩ = false := fy
                    have HSW' : Hid (KS w (((wr.drewN nq).setCell ⟨gi, b, none⟩ (kidV y)).setCell ⟨gi, b', none⟩ (kidV x)) g cap k nd kv ks (upd ks4 i (((ks4 i).set b y).set b' x))) :=
                      Lib.hid (HSW.out.heap rfl (below_drewN HSW.out.below _))
                    generalize wr.drewN nq = wq at cx' cy' fx' fy' HSW' ⊢
                    go_big_region
                    go_wp2
                    refine ⟨⟨b', _, by omega, rfl, ?_, HSW'.out.heap rfl HSW'.out.below.drew⟩, by simp [intOf]; omega⟩
                    rw [upd_self, List.length_set, List.length_set]; exact HL4.out
                  · refine ⟨⟨a + 1, ks4, by omega, rfl, HL4.out, HS4.out.heap rfl (below_drewN HS4.out.below _)⟩, by simp [intOf]; omega⟩
            · go_wp2
              go_roundw
              case rel => exact ⟨i + 1, ks3, by omega, rfl, HS3.out⟩
              case measure => simp [intOf]; omega
        · go_wp2
          go_ret2
          obtain rfl : i = k + 1 := by omega
          exact ⟨g, cap, nd, ks2, kv, ret2 rfl rfl, HS.out.own, HS.out.kids, ⟨ks, HBu.out, HS.out.perm⟩, HS.out.below⟩

end Go.Proofs.YtfppgplboomdbaaGreatDoor
