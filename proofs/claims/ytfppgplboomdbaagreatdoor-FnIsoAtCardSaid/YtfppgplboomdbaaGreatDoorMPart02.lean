/- Part of the proofs of laws.FnIsoTree and laws.FnIsoAt: lemmas and contracts of functions that the two laws reach, each under the hypotheses that its own statement names. -/
import Derived.Test.YtfppgplboomdbaaGreatDoorMC2
import Derived.Lib.AppendStr
namespace Go.Proofs.YtfppgplboomdbaaGreatDoor
open Go.RowKit

/-- The tree as the kids tell it. -/
structure Tree (nd : Nat → Nd) (ks : Nat → List Nat) (n : Nat) : Prop where
  pos : 0 < n
  le : n ≤ 101
  root : (nd 0).f.dir = true
  par0 : (nd 0).parent = 0
  par : ∀ x, 1 ≤ x → x < n → (nd x).parent < x ∧ (nd (nd x).parent).f.dir = true
  mem : ∀ p, p < n → ∀ x, x ∈ ks p ↔ (1 ≤ x ∧ x < n ∧ (nd x).parent = p)
  nodup : ∀ p, p < n → (ks p).Nodup
theorem Built.tree {fs : List FileD} {nd : Nat → Nd} {ks0 ks : Nat → List Nat} {k : Nat} (h : Built fs nd ks0 k) (hp : ∀ i, i ≤ k → (ks i).Perm (ks0 i)) (hk : k ≤ 100) : Tree nd ks (k + 1) := by
  refine ⟨by omega, by omega, by rw [h.root.1]; rfl, h.root.2.2, fun x h1 h2 => ?_, fun p hpk x => ?_, fun p hpk => ?_⟩
  · obtain ⟨f, _, _, _, e4, e5, _⟩ := h.node (x - 1) (by omega)
    have e : x - 1 + 1 = x := by omega
    rw [e] at e4 e5
    exact ⟨by omega, e5⟩
  · rw [(hp p (by omega)).mem_iff, h.kids p (by omega), kidsOf, List.mem_filter, List.mem_range'_1]
    simp; omega
  · rw [(hp p (by omega)).nodup_iff, h.kids p (by omega), kidsOf]
    exact List.Pairwise.filter _ (List.nodup_range' ..)

/-- A world in which, below B, only block g may have changed. -/
structure But (B g : Nat) (w w' : World) : Prop where
  os : w'.os = w.os
  tape : w'.tape = w.tape
  output : w'.output = w.output
  size : w.heap.size ≤ w'.heap.size
  block : ∀ k, k < B → k ≠ g → w'.heap[k]? = w.heap[k]?
theorem But.refl (B g : Nat) (w : World) : But B g w w := ⟨rfl, rfl, rfl, Nat.le_refl _, fun _ _ _ => rfl⟩
theorem But.of {B g : Nat} {w w' : World} (h : Below B w w') : But B g w w' := ⟨h.os, h.tape, h.output, h.size, fun k hk _ => h.block k hk⟩
theorem But.trans {B g : Nat} {a b c : World} (h1 : But B g a b) (h2 : But B g b c) : But B g a c :=
  ⟨h2.os.trans h1.os, h2.tape.trans h1.tape, h2.output.trans h1.output, Nat.le_trans h1.size h2.size, fun k hk hg => (h2.block k hk hg).trans (h1.block k hk hg)⟩
theorem But.setCell {B g : Nat} {a w : World} (h : But B g a w) (j : Nat) (u : Value) : But B g a (w.setCell ⟨g, j, none⟩ u) :=
  h.trans ⟨rfl, rfl, rfl, by simp [World.setCell], fun k _ hg => Below.heap_setCell _ _ _ _ hg⟩
theorem But.below {B B' g : Nat} {w w' : World} (h : But B g w w') (hB : B' ≤ g) (hB' : B' ≤ B) : Below B' w w' :=
  ⟨h.os, h.tape, h.output, h.size, fun k hk => h.block k (by omega) (by omega)⟩

def wn (nd : Nat → Nd) (num : Nat → Int) : Nat → Nd := fun i => { nd i with number := num i }
theorem nodesL_num (nd : Nat → Nd) (kv : Nat → Value) (num : Nat → Int) (n q : Nat) (v : Int) (hq : q < n) : (nodesL (wn nd num) kv n).set (q * 18 + 16) (.int .i64 v) = nodesL (wn nd (upd num q v)) kv n := by
  refine (nodesL_set hq (by omega) (fun i hi => ⟨?_, rfl⟩) ?_).symm
  · simp [wn, upd_ne _ _ hi]
  · simp [wn, upd_self, ncells]
structure DirsI (nd : Nat → Nd) (n : Nat) (ds : List Nat) (num : Nat → Int) (i : Nat) (extra : List Nat) : Prop where
  nodup : ds.Nodup
  head : ds[0]? = some 0
  lt : ∀ x ∈ ds, x < n ∧ (nd x).f.dir = true
  mem : ∀ x, x < n → (x ∈ ds ↔ x = 0 ∨ (1 ≤ x ∧ (nd x).f.dir = true ∧ ((nd x).parent ∈ ds.take i ∨ x ∈ extra)))
  num : ∀ (j d : Nat), ds[j]? = some d → num d = (j : Int) + 1
theorem length_le_of_nodup : ∀ (n : Nat) (l : List Nat), l.Nodup → (∀ x ∈ l, x < n) → l.length ≤ n
  | 0, l, _, hl => by
    cases l with
    | nil => simp
    | cons a l => have := hl a (by simp); omega
  | n + 1, l, h, hl => by
    by_cases hn : n ∈ l
    · have h1 := length_le_of_nodup n (l.erase n) (h.erase n) (fun x hx => by
        have h2 := (h.mem_erase_iff).1 hx
        have := hl x h2.2
        have := h2.1
        omega)
      rw [List.length_erase_of_mem hn] at h1
      omega
    · have h1 := length_le_of_nodup n l h (fun x hx => by
        have := hl x hx
        have : x ≠ n := fun e => hn (e ▸ hx)
        omega)
      omega
theorem DirsI.start {nd : Nat → Nd} {ks : Nat → List Nat} {n : Nat} (h : Tree nd ks n) (num : Nat → Int) : DirsI nd n [0] (upd num 0 1) 0 [] :=
  ⟨by simp, rfl, fun x hx => by simp at hx; subst hx; exact ⟨h.pos, h.root⟩, fun x _ => by simp, fun j d hd => by
    cases j with
    | zero => simp at hd; subst hd; simp [upd_self]
    | succ j => simp at hd⟩
/-- A kid that is no directory is passed over. -/
theorem DirsI.skip {nd : Nat → Nd} {n i x : Nat} {ds extra : List Nat} {num : Nat → Int} (h : DirsI nd n ds num i extra) (hd : (nd x).f.dir ≠ true) : DirsI nd n ds num i (extra ++ [x]) :=
  ⟨h.nodup, h.head, h.lt, fun y hy => by
    rw [h.mem y hy]
    constructor
    · rintro (e | ⟨h1, h2, h3 | h3⟩)
      · exact .inl e
      · exact .inr ⟨h1, h2, .inl h3⟩
      · exact .inr ⟨h1, h2, .inr (by simp [h3])⟩
    · rintro (e | ⟨h1, h2, h3 | h3⟩)
      · exact .inl e
      · exact .inr ⟨h1, h2, .inl h3⟩
      · rw [List.mem_append, List.mem_singleton] at h3
        rcases h3 with h3 | h3
        · exact .inr ⟨h1, h2, .inr h3⟩
        · subst h3; exact absurd h2 hd, h.num⟩
/-- A kid that is a directory is put behind. -/
theorem DirsI.put {nd : Nat → Nd} {ks : Nat → List Nat} {n i x d : Nat} {ds extra : List Nat} {num : Nat → Int} (ht : Tree nd ks n) (h : DirsI nd n ds num i extra) (hi : ds[i]? = some d) (hx : x ∈ ks d) (hd : (nd x).f.dir = true) (hex : x ∉ extra) :
    DirsI nd n (ds ++ [x]) (upd num x ((ds.length : Int) + 1)) i (extra ++ [x]) := by
  have hdn : d < n := (h.lt d (List.mem_of_getElem? hi)).1
  obtain ⟨x1, x2, x3⟩ := (ht.mem d hdn x).1 hx
  have hil : i < ds.length := (List.getElem?_eq_some_iff.1 hi).1
  have hnot : x ∉ ds := fun hm => by
    rcases (h.mem x x2).1 hm with e | ⟨_, _, h3 | h3⟩
    · omega
    · rw [x3] at h3
      rw [List.mem_take_iff_getElem] at h3
      obtain ⟨j, hj, ej⟩ := h3
      obtain ⟨_, e2⟩ := List.getElem?_eq_some_iff.1 hi
      have hji : j = i := (List.getElem?_inj (by omega : j < ds.length) h.nodup).1 (by rw [hi, ← ej]; exact List.getElem?_eq_getElem _)
      omega
    · exact hex h3
  have htake : (ds ++ [x]).take i = ds.take i := List.take_append_of_le_length (by omega)
  refine ⟨?_, ?_, fun y hy => ?_, fun y hy => ?_, fun j e he => ?_⟩
  · rw [List.nodup_append]
    refine ⟨h.nodup, by simp, fun a ha b hb e => ?_⟩
    simp at hb; subst hb; subst e; exact hnot ha
  · rw [List.getElem?_append_left (by omega)]; exact h.head
  · rw [List.mem_append, List.mem_singleton] at hy
    rcases hy with hy | rfl
    · exact h.lt y hy
    · exact ⟨x2, hd⟩
  · rw [List.mem_append, List.mem_singleton, htake, h.mem y hy, List.mem_append, List.mem_singleton]
    constructor
    · rintro ((e | ⟨h1, h2, h3 | h3⟩) | rfl)
      · exact .inl e
      · exact .inr ⟨h1, h2, .inl h3⟩
      · exact .inr ⟨h1, h2, .inr (.inl h3)⟩
      · exact .inr ⟨x1, hd, .inr (.inr rfl)⟩
    · rintro (e | ⟨h1, h2, h3 | h3 | h3⟩)
      · exact .inl (.inl e)
      · exact .inl (.inr ⟨h1, h2, .inl h3⟩)
      · exact .inl (.inr ⟨h1, h2, .inr h3⟩)
      · exact .inr h3
  · by_cases hj : j < ds.length
    · rw [List.getElem?_append_left hj] at he
      rw [upd_ne]
      · exact h.num j e he
      · rintro rfl; exact hnot (List.mem_of_getElem? he)
    · rw [List.getElem?_append_right (by omega)] at he
      have hj2 : j - ds.length = 0 := by
        rcases Nat.eq_zero_or_pos (j - ds.length) with h0 | h0
        · exact h0
        · rw [List.getElem?_eq_none (by simp; omega)] at he; cases he
      rw [hj2] at he
      simp at he; subst he
      rw [upd_self]
      have : j = ds.length := by omega
      rw [this]
/-- One directory's kids are done. -/
theorem DirsI.next {nd : Nat → Nd} {ks : Nat → List Nat} {n i d : Nat} {ds : List Nat} {num : Nat → Int} (ht : Tree nd ks n) (hi : ds[i]? = some d) (h : DirsI nd n ds num i (ks d)) : DirsI nd n ds num (i + 1) [] := by
  have hdn : d < n := (h.lt d (List.mem_of_getElem? hi)).1
  refine ⟨h.nodup, h.head, h.lt, fun y hy => ?_, h.num⟩
  have hil : i < ds.length := (List.getElem?_eq_some_iff.1 hi).1
  have hts : ds.take (i + 1) = ds.take i ++ [d] := by rw [List.take_add_one, hi]; rfl
  rw [h.mem y hy, hts, List.mem_append, List.mem_singleton]
  constructor
  · rintro (e | ⟨h1, h2, h3 | h3⟩)
    · exact .inl e
    · exact .inr ⟨h1, h2, .inl (.inl h3)⟩
    · exact .inr ⟨h1, h2, .inl (.inr ((ht.mem d hdn y).1 h3).2.2)⟩
  · rintro (e | ⟨h1, h2, (h3 | h3) | h3⟩)
    · exact .inl e
    · exact .inr ⟨h1, h2, .inl h3⟩
    · exact .inr ⟨h1, h2, .inr ((ht.mem d hdn y).2 ⟨h1, hy, h3⟩)⟩
    · simp at h3
/-- What isoDirs tells: each directory once, the root first; its number is its place. -/
structure DirsOK (nd : Nat → Nd) (n : Nat) (ds : List Nat) (num : Nat → Int) : Prop where
  nodup : ds.Nodup
  head : ds[0]? = some 0
  mem : ∀ x, x ∈ ds ↔ x < n ∧ (nd x).f.dir = true
  num : ∀ (j d : Nat), ds[j]? = some d → num d = (j : Int) + 1
theorem DirsI.ok {nd : Nat → Nd} {ks : Nat → List Nat} {n : Nat} {ds : List Nat} {num : Nat → Int} (ht : Tree nd ks n) (h : DirsI nd n ds num ds.length []) : DirsOK nd n ds num := by
  have key : ∀ m x, x < m → x < n → (nd x).f.dir = true → x ∈ ds := by
    intro m
    induction m with
    | zero => intro x hx; omega
    | succ m ih =>
      intro x hx hxn hd
      by_cases h0 : x = 0
      · exact (h.mem x hxn).2 (.inl h0)
      · obtain ⟨p1, p2⟩ := ht.par x (by omega) hxn
        refine (h.mem x hxn).2 (.inr ⟨by omega, hd, .inl ?_⟩)
        rw [List.take_length]
        exact ih _ (by omega) (by omega) p2
  exact ⟨h.nodup, h.head, fun x => ⟨h.lt x, fun hx => key (x + 1) x (by omega) hx.1 hx.2⟩, h.num⟩

end Go.Proofs.YtfppgplboomdbaaGreatDoor

namespace Go.Proofs.YtfppgplboomdbaaGreatDoor
open Go.RowKit

theorem KidsOwn.but {w w' : World} {B Bw g n : Nat} {ks : Nat → List Nat} {kv : Nat → Value} (h : KidsOwn w B g n ks kv) (hb : But Bw g w w') (hw : w.heap.size ≤ Bw) : KidsOwn w' B g n ks kv :=
  h.kept (fun i hi b hb' => hb.block b (by have := ((h.own i hi).own_lt hb').1; omega) (fun e => h.apart i hi (e ▸ hb'))) hb.size
/-- The state of isoDirs. -/
structure DSt (w wr : World) (B g n cap : Nat) (nd : Nat → Nd) (kv : Nat → Value) (v : Value) (ds : List Nat) (num : Nat → Int) : Prop where
  list : OwnS wr w.heap.size 1 v ds.length (ds.map kidV)
  nodes : OwnS wr B 18 (.slice (some ⟨g, 0, none⟩) n cap) n (nodesL (wn nd num) kv n)
  but : But w.heap.size g w wr
theorem DSt.store {w wr : World} {B g n cap q : Nat} {nd : Nat → Nd} {kv : Nat → Value} {v : Value} {ds : List Nat} {num : Nat → Int} (h : DSt w wr B g n cap nd kv v ds num) (hg : g < w.heap.size) (hq : q < n) (x : Int) :
    DSt w (wr.setCell ⟨g, q * 18 + 16, none⟩ (.int .i64 x)) B g n cap nd kv v ds (upd num q x) := by
  refine ⟨h.list.kept (fun b hb => Below.heap_setCell _ _ _ _ (fun e => ?_)) (by simp [World.setCell]), ?_, h.but.setCell _ _⟩
  · have := (h.list.own_lt hb).2
    have e' : b = g := e
    omega
  · have h1 := h.nodes.store (q * 18 + 16) (by omega) (.int .i64 x)
    rw [nodesL_num _ _ _ _ _ _ hq] at h1
    exact h1

theorem DSt.put {w wr w' : World} {B g n cap x m : Nat} {nd : Nat → Nd} {kv : Nat → Value} {v v' : Value} {ds : List Nat} {num : Nat → Int} {ob : Obj} (h : DSt w wr B g n cap nd kv v ds num) (hg : g < w.heap.size) (hm : ds.length = m) (hA : AppLeft (wr.alloc ob) w.heap.size 1 m 1 v (ds.map kidV) ([x].map kidV) v' w') :
    DSt w w' B g n cap nd kv v' (ds ++ [x]) num := by
  subst hm
  have hb : Below w.heap.size wr w' := ((Below.refl _ wr).alloc h.but.size ob).trans hA.below
  refine ⟨?_, h.nodes.kept (fun b hb' => ?_) hb.size, h.but.trans (But.of hb)⟩
  · have h1 := hA.own
    rw [← List.map_append] at h1
    simpa using h1
  · have e : g = b := Option.some.inj hb'
    subst e; exact hb.block g hg
theorem DSt.pos {w wr : World} {B g n cap : Nat} {nd : Nat → Nd} {kv : Nat → Value} {v : Value} {ds : List Nat} {num : Nat → Int} (h : DSt w wr B g n cap nd kv v ds num) (hd : ds[0]? = some 0) : ∃ gd cd, v = .slice (some ⟨gd, 0, none⟩) ds.length cd := by
  refine h.list.pos ?_
  cases ds with
  | nil => simp at hd
  | cons a l => simp

set_option maxHeartbeats 4000000 in
set_option maxRecDepth 100000 in
theorem isoDirs_any (g n cap : Nat) (nd : Nat → Nd) (ks : Nat → List Nat) (kv : Nat → Value) (w : World) (B : Nat) (ht : Tree nd ks n) (hown : OwnS w B 18 (.slice (some ⟨g, 0, none⟩) n cap) n (nodesL nd kv n)) (hkids : KidsOwn w B g n ks kv) :
    Calls Tryz.prog 22 #[.slice (some ⟨g, 0, none⟩) n cap] w fun e w' => ∃ v ds num, e = .returned v ∧ DSt w w' B g n cap nd kv v ds num ∧ DirsOK nd n ds num := by
  have HT := Lib.hid ht
  have HO := Lib.hid hown
  have HK := Lib.hid hkids
  have hpos := ht.pos
  have hle := ht.le
  have hg := hown.lt.1
  have c0 : w.cell? ⟨g, 16, none⟩ = some (.int .i64 (nd 0).number) := hown.node hpos 16 _ rfl
  have f0 : w.frozen? ⟨g, 16, none⟩ = false := hown.free (by omega)
  have hgne : g ≠ w.heap.size := by omega
  clear ht hown hkids
  obtain ⟨i3, z3, hi3, hz3, hs3, hb3', hc3⟩ := info_parts3 Tryz.i3
  go_enter Tryz.func22, Tryz.ntmps22
  go_wp2
  go_loopw [3, 4] (fun v iv wr => ∃ (i m : Nat) (gd cd : Nat) (ds : List Nat) (num : Nat → Int), ds.length = m ∧ v = .slice (some ⟨gd, 0, none⟩) m cd ∧ iv = .int .i64 i ∧ i ≤ m ∧ DSt w wr B g n cap nd kv (.slice (some ⟨gd, 0, none⟩) m cd) ds num ∧ DirsI nd n ds num i []) (fun _ iv _ => n - (intOf iv).toNat)
  case atStart =>
    refine ⟨0, 1, w.heap.size, 1, [0], upd (fun i => (nd i).number) 0 1, rfl, rfl, rfl, by omega, ?_, DirsI.start HT.out _⟩
    have hs : (w.setCell ⟨g, 16, none⟩ (.int .i64 1)).heap.size = w.heap.size := by simp [World.setCell]
    have h1 := own_new (w.setCell ⟨g, 16, none⟩ (.int .i64 1)) w.heap.size 3 [kidV 0] 1 1 (by rw [hs]; exact Nat.le_refl _) rfl (by decide)
    rw [hs] at h1
    have h2 := HO.out.store 16 (by omega) (.int .i64 1)
    have h3 : (nodesL nd kv n).set 16 (.int .i64 1) = nodesL (wn nd (upd (fun i => (nd i).number) 0 1)) kv n := by
      have := nodesL_num nd kv (fun i => (nd i).number) n 0 1 hpos
      exact this
    rw [h3] at h2
    exact ⟨h1, h2.alloc _, ((But.refl _ _ _).setCell _ _).trans (But.of ((Below.refl _ _).alloc (by rw [hs]; exact Nat.le_refl _) _))⟩
  case round =>
    obtain ⟨i, m, gd, cd, ds, num, hm, rfl, rfl, him, hD, hI⟩ := hrel
    have hmn : m ≤ n := by rw [← hm]; exact length_le_of_nodup n ds hI.nodup (fun x hx => (hI.lt x hx).1)
    have HM := Lib.hid hm
    have HD := Lib.hid hD
    have HI := Lib.hid hI
    clear hD hI hm
    by_cases hlt : i < m
    · obtain ⟨d, hd⟩ : ∃ d, ds[i]? = some d := ⟨ds[i]'(by rw [HM.out]; exact hlt), List.getElem?_eq_getElem _⟩
      have hdn : d < n := (HI.out.lt d (List.mem_of_getElem? hd)).1
      have cd0 : wr.cell? ⟨gd, i, none⟩ = some (.int .i64 d) := by
        have h1 := HD.out.list
        rw [HM.out] at h1
        exact h1.cell (by rw [List.getElem?_map, hd]; rfl)
      obtain ⟨adk, capk, hkv⟩ := (HK.out.own d hdn).slice
      have hKl : (ks d).length ≤ n := length_le_of_nodup n _ (HT.out.nodup d hdn) (fun x hx => ((HT.out.mem d hdn x).1 hx).2.1)
      generalize hM : (ks d).length = M at hkv hKl
      have hck : wr.cell? ⟨g, d * 18 + 10, none⟩ = some (.slice adk M capk) := by rw [← hkv]; exact HD.out.nodes.node hdn 10 _ rfl
      have Hd := Lib.hid hd
      have HKM := Lib.hid hM
      have HKV := Lib.hid hkv
      clear hd hM hkv
      go_wp2
      clear hck cd0
      go_loopw [3, 26] (fun v jv wr => ∃ (j m : Nat) (gd cd : Nat) (ds : List Nat) (num : Nat → Int), ds.length = m ∧ v = .slice (some ⟨gd, 0, none⟩) m cd ∧ jv = .int .i64 j ∧ j ≤ M ∧ i < m ∧ ds[i]? = some d ∧ DSt w wr B g n cap nd kv (.slice (some ⟨gd, 0, none⟩) m cd) ds num ∧ DirsI nd n ds num i ((ks d).take j)) (fun _ jv _ => M - (intOf jv).toNat)
      case atStart => exact ⟨0, m, gd, cd, ds, num, HM.out, rfl, rfl, by omega, hlt, Hd.out, HD.out, by simpa using HI.out⟩
      case round =>
        obtain ⟨j, m2, gd2, cd2, ds2, num2, hm2, rfl, rfl, hjM, him2, hd2, hD2, hI2⟩ := hrel
        have hmn2 : m2 ≤ n := by rw [← hm2]; exact length_le_of_nodup n ds2 hI2.nodup (fun x hx => (hI2.lt x hx).1)
        have HM2 := Lib.hid hm2
        have HD2 := Lib.hid hD2
        have HI2 := Lib.hid hI2
        have Hd2 := Lib.hid hd2
        clear hD2 hI2 hm2 hd2
        by_cases hlt2 : j < M
        · obtain ⟨x, hx⟩ : ∃ x, (ks d)[j]? = some x := ⟨(ks d)[j]'(by rw [HKM.out]; exact hlt2), List.getElem?_eq_getElem _⟩
          have hxm : x ∈ ks d := List.mem_of_getElem? hx
          have hxn : x < n := ((HT.out.mem d hdn x).1 hxm).2.1
          have hownk := (HK.out.but HD2.out.but (Nat.le_refl _)).own d hdn
          rw [HKV.out, HKM.out] at hownk
          obtain ⟨gk, capk', e4⟩ := hownk.pos (by omega)
          obtain ⟨rfl, rfl⟩ : adk = some ⟨gk, 0, none⟩ ∧ capk = capk' := by cases e4; exact ⟨rfl, rfl⟩
          have cx : wr.cell? ⟨gk, j, none⟩ = some (.int .i64 x) := hownk.cell (by rw [List.getElem?_map, hx]; rfl)
          have cf : wr.cell? ⟨g, x * 18 + 1, none⟩ = some (.bool (nd x).f.dir) := HD2.out.nodes.node hxn 1 _ rfl
          have hts : (ks d).take (j + 1) = (ks d).take j ++ [x] := by rw [List.take_add_one, hx]; rfl
          have hex : x ∉ (ks d).take j := fun h3 => by
            rw [List.mem_take_iff_getElem] at h3
            obtain ⟨j', hj', ej⟩ := h3
            have : j' = j := (List.getElem?_inj (by omega : j' < (ks d).length) (HT.out.nodup d hdn)).1 (by rw [hx, ← ej]; exact List.getElem?_eq_getElem _)
            omega
          have HTS := Lib.hid hts
          have HEX := Lib.hid hex
          have HXM := Lib.hid hxm
          have hsz := HD2.out.but.size
          have hgw : g < wr.heap.size := by omega
          clear hx hownk e4 hts hex hxm
          go_wp2_with (first
            | (refine wpList_append_ownS' rfl (.tmp 36) (.tmp 38) 59 rfl w.heap.size 3 i3 z3 1 8 Tryz.underlying59 hi3 hz3 hs3 hb3' hc3 (by decide) (.slice (some ⟨gd2, 0, none⟩) m2 cd2) m2 (ds2.map kidV) rfl (by have h := HD2.out.list.alloc (.cells [kidV x].toArray 3); rw [HM2.out] at h; exact h)
                ⟨wr.heap.size, 0, none⟩ 1 1 ([x].map kidV) rfl rfl (row_at wr [kidV x] 3) (fun u hu => by simp at hu; subst hu; rfl) (by omega) (by unfold maxLen; omega) (by omega) (by simp; omega) ?_
               intro v5 w5 hA5
               have hD5 := HD2.out.put hg HM2.out hA5
               obtain ⟨gd5, cd5, rfl⟩ := hA5.own.pos (by omega)
               have c5 : w5.cell? ⟨g, x * 18 + 16, none⟩ = some (.int .i64 (num2 x)) := hD5.nodes.node hxn 16 _ rfl
               have f5 : w5.frozen? ⟨g, x * 18 + 16, none⟩ = false := hD5.nodes.free (by omega)
               have HD5 := Lib.hid hD5
               clear hA5 hD5))
          case roundEnd =>
            have hm5 : (ds2 ++ [x]).length = m2 + 1 := by simp [HM2.out]
            refine ⟨⟨j + 1, m2 + 1, gd5, cd5, ds2 ++ [x], upd num2 x ((m2 : Int) + 1), hm5, rfl, rfl, by omega, by omega, ?_, HD5.out.store hg hxn _, ?_⟩, by simp [intOf]; omega⟩
            · rw [List.getElem?_append_left (by rw [HM2.out]; omega)]; exact Hd2.out
            · rw [HTS.out, ← HM2.out]
              exact HI2.out.put HT.out Hd2.out HXM.out (by assumption) HEX.out
          case roundEnd hdir =>
            exact ⟨⟨j + 1, m2, gd2, cd2, ds2, num2, HM2.out, rfl, rfl, by omega, by omega, Hd2.out, HD2.out, by rw [HTS.out]; exact HI2.out.skip (by rw [hdir]; decide)⟩, by simp [intOf]; omega⟩
        · obtain rfl : j = M := by omega
          go_wp2
          have h1 := HI2.out
          rw [List.take_of_length_le (by rw [HKM.out]; exact Nat.le_refl _)] at h1
          exact ⟨⟨i + 1, m2, gd2, cd2, ds2, num2, HM2.out, rfl, rfl, by omega, HD2.out, h1.next HT.out Hd2.out⟩, by simp [intOf]; omega⟩
    · obtain rfl : i = m := by omega
      go_wp2
      go_ret
      have h1 := HI.out
      rw [← HM.out] at h1
      exact ⟨_, ds, num, rfl, HD.out, h1.ok HT.out⟩

end Go.Proofs.YtfppgplboomdbaaGreatDoor

namespace Go.Proofs.YtfppgplboomdbaaGreatDoor
open Go.RowKit

/-- A variable po that holds an owned slice of bytes. -/
structure OutV (w : World) (B po : Nat) (xs : Bs) : Prop where
  ex : ∃ v, w.cell? ⟨po, 0, none⟩ = some v ∧ OwnS w B 1 v xs.length (bcs xs) ∧ v.ownBlock ≠ some po
  free : w.frozen? ⟨po, 0, none⟩ = false
  lo : B ≤ po
theorem OutV.lt {w : World} {B po : Nat} {xs : Bs} (h : OutV w B po xs) : po < w.heap.size := by
  obtain ⟨v, h1, _⟩ := h.ex
  exact World.block_lt_of_cell? w _ h1
theorem OutV.below {w w' : World} {B po : Nat} {xs : Bs} (h : OutV w B po xs) (hb : Below w.heap.size w w') : OutV w' B po xs := by
  obtain ⟨v, h1, h2, h3⟩ := h.ex
  exact ⟨⟨v, by rw [hb.cell (p := ⟨po, 0, none⟩) h.lt]; exact h1, h2.below hb, h3⟩, by rw [World.frozen?_of_block (w := w) (a := ⟨po, 0, none⟩) (hb.block po h.lt)]; exact h.free, h.lo⟩
/-- Behind an append and the store of its result. -/
theorem OutV.app {w wa w' : World} {B po : Nat} {xs news : Bs} {v v' : Value} (h : OutV w B po xs) (hv : w.cell? ⟨po, 0, none⟩ = some v) (hwa : Below w.heap.size w wa) (hA : AppLeft wa B 1 xs.length news.length v (bcs xs) (bcs news) v' w') :
    OutV (w'.setCell ⟨po, 0, none⟩ v') B po (xs ++ news) ∧ w'.cell? ⟨po, 0, none⟩ = some v ∧ w'.frozen? ⟨po, 0, none⟩ = false := by
  obtain ⟨v0, h1, h2, h3⟩ := h.ex
  rw [hv] at h1; cases h1
  have hlt := h.lt
  have hs := hwa.size
  have hbl : w'.heap[po]? = w.heap[po]? := (hA.other po (by omega) h3).trans (hwa.block po hlt)
  have hc : w'.cell? ⟨po, 0, none⟩ = some v := by rw [World.cell?_of_block (w := w) (a := ⟨po, 0, none⟩) hbl]; exact hv
  have hf : w'.frozen? ⟨po, 0, none⟩ = false := by rw [World.frozen?_of_block (w := w) (a := ⟨po, 0, none⟩) hbl]; exact h.free
  have hne : v'.ownBlock ≠ some po := fun e => by
    rcases hA.block po e with e | e
    · exact h3 e
    · omega
  refine ⟨⟨⟨v', ?_, ?_, hne⟩, ?_, h.lo⟩, hc, hf⟩
  · have := World.cell?_setCells_in po [v'] 0 w' (fun k hk => by
      have hk0 : k = 0 := by simpa using hk
      subst hk0
      rw [hc]; rfl) 0 (by simp)
    simpa [World.setCells] using this
  · have h4 := hA.own
    rw [← List.length_append, ← bcs_append] at h4
    exact h4.kept (fun b hb => Below.heap_setCell _ _ _ _ (fun e => hne (by rw [hb]; exact congrArg some e))) (by simp [World.setCell])
  · have := World.frozen?_setCells po [v'] 0 w' ⟨po, 0, none⟩
    have e : (w'.setCells po 0 [v']) = w'.setCell ⟨po, 0, none⟩ v' := rfl
    rw [e] at this
    rw [this]; exact hf

theorem byte_wrap (x : Int) : Value.int .u8 (IntKind.u8.wrap x) = .int .u8 ((by8 x).toNat : Int) := by
  rw [by8_toNat, ← IntKind.wrap_u8]
theorem app_byte {w : World} {B n : Nat} {v v' : Value} {xs : List Value} {x : Int} {w' : World} (h : AppLeft w B 1 n 1 v xs [.int .u8 (IntKind.u8.wrap x)] v' w') : AppLeft w B 1 n [by8 x].length v xs (bcs [by8 x]) v' w' := by
  rw [byte_wrap] at h; exact h
def numAt (little : Bool) (bytes : Nat) (n : Int) (i : Nat) : UInt8 := by8 (n / 2 ^ (8 * (if little then i else bytes - 1 - i)))
def numB (little : Bool) (bytes : Nat) (n : Int) : Bs := (List.range bytes).map (numAt little bytes n)

set_option maxHeartbeats 4000000 in
set_option maxRecDepth 100000 in
theorem isoPaths1_any (B po pl : Nat) (little : Bool) (bytes : Nat) (hb : bytes = 2 ∨ bytes = 4) (n : Int) (_hn0 : 0 ≤ n) (_hn1 : n < 4294967296) (xs : Bs) (w : World) (hxs : xs.length ≤ 1000000)
    (ho : OutV w B po xs) (hl : w.cell? ⟨pl, 0, none⟩ = some (.bool little)) (hpl : pl < B) :
    Calls Tryz.prog 40 #[.int .u32 n, .int .i64 bytes, .pointer (some ⟨pl, 0, none⟩), .pointer (some ⟨po, 0, none⟩)] w fun e w' => e = .returned (.tuple #[]) ∧ OutV w' B po (xs ++ numB little bytes n) ∧ Below B w w' := by
  have HO := Lib.hid ho
  obtain ⟨i5, hi, hz0, hz1, hz2⟩ := info_parts Tryz.info5
  go_enter Tryz.func40, Tryz.ntmps40
  go_wp2
  go_loopw [9] (fun iv wr => ∃ (i : Nat), i ≤ bytes ∧ iv = .int .i64 i ∧ OutV wr B po (xs ++ (List.range i).map (numAt little bytes n)) ∧ Below B w wr) (fun iv _ => bytes - (intOf iv).toNat)
  case atStart => exact ⟨0, by omega, rfl, by simpa using HO.out, Below.refl _ _⟩
  case round =>
    obtain ⟨i, hi4, rfl, ho2, hbel⟩ := hrel
    have HO2 := Lib.hid ho2
    have HB := Lib.hid hbel
    by_cases hlt : i < bytes
    · have hcl : wr.cell? ⟨pl, 0, none⟩ = some (.bool little) := by rw [hbel.cell (p := ⟨pl, 0, none⟩) hpl]; exact hl
      obtain ⟨v, hv, hov, hvne⟩ := ho2.ex
      clear ho2 hbel hl
      have hlen : (xs ++ (List.range i).map (numAt little bytes n)).length ≤ 1000010 := by
        rw [List.length_append, List.length_map, List.length_range]; omega
      generalize hys : xs ++ (List.range i).map (numAt little bytes n) = ys at HO2 hov hlen
      have HYS := Lib.hid hys
      clear hys
      have HV := Lib.hid hov
      have hBw : B ≤ wr.heap.size := by have := HO2.out.lt; have := HO2.out.lo; omega
      have hpo := HO2.out.lt
      have hpo' : po ≠ wr.heap.size := by omega
      clear hov
      have hb4 : bytes ≤ 4 := by omega
      have hsh0 : (0 : Int) ≤ 8 * (i : Int) := by omega
      have hsh1 : (0 : Int) ≤ 8 * ((bytes : Int) - 1 - i) := by omega
      cases little with
      | true =>
        go_wp2
        go_region_law (first
          | (refine step_append_ownS rfl (.tmp 20) (.tmp 25) 26 rfl B 5 i5 (.int .u8 0) 1 1 Tryz.underlying26 hi hz0 hz1 hz2 rfl (by decide) v ys.length (bcs ys) (by rfl) (HV.out.alloc _).drew ⟨wr.heap.size, 0, none⟩ 1 1 [_] (by rfl) rfl (row_at wr _ 5) (by intro u hu; simp at hu; subst hu; rfl) (by omega) (by unfold maxLen; omega) (by omega) (by show B ≤ (wr.alloc _).heap.size; simp; omega) ?_
             intro v5 w5 hA5
             have hA6 := app_byte hA5
             have h6 := HO2.out.app hv (((Below.refl _ wr).alloc (Nat.le_refl _) _).drew) hA6
             have hB6 := (HB.out.trans ((((Below.refl _ wr).alloc (Nat.le_refl _) _).drew).mono hBw)).trans hA6.below
             have c6 := h6.2.1
             have f6 := h6.2.2
             have H6 := Lib.hid h6.1
             have HB6 := Lib.hid hB6
             obtain ⟨g5, cap5, rfl⟩ := hA5.own.pos (Nat.succ_pos _)
             clear hA5 hA6 h6 hB6))
        all_goals (
          go_wp2
          refine ⟨⟨i + 1, by omega, rfl, ?_, HB6.out.setCell (by exact HO2.out.lo) _⟩, by simp [intOf]; omega⟩
          have h6 := H6.out
          rw [List.range_succ, List.map_append, ← List.append_assoc, HYS.out]
          have e : numAt true bytes n i = by8 (n / 2 ^ (8 * (i : Int)).toNat) := by
            unfold numAt
            have e2 : (8 * (i : Int)).toNat = 8 * i := by omega
            rw [e2]; rfl
          rw [← e] at h6
          exact h6)
      | false =>
        go_wp2
        go_region_law (first
          | (refine step_append_ownS rfl (.tmp 20) (.tmp 25) 26 rfl B 5 i5 (.int .u8 0) 1 1 Tryz.underlying26 hi hz0 hz1 hz2 rfl (by decide) v ys.length (bcs ys) (by rfl) (HV.out.alloc _).drew ⟨wr.heap.size, 0, none⟩ 1 1 [_] (by rfl) rfl (row_at wr _ 5) (by intro u hu; simp at hu; subst hu; rfl) (by omega) (by unfold maxLen; omega) (by omega) (by show B ≤ (wr.alloc _).heap.size; simp; omega) ?_
             intro v5 w5 hA5
             have hA6 := app_byte hA5
             have h6 := HO2.out.app hv (((Below.refl _ wr).alloc (Nat.le_refl _) _).drew) hA6
             have hB6 := (HB.out.trans ((((Below.refl _ wr).alloc (Nat.le_refl _) _).drew).mono hBw)).trans hA6.below
             have c6 := h6.2.1
             have f6 := h6.2.2
             have H6 := Lib.hid h6.1
             have HB6 := Lib.hid hB6
             obtain ⟨g5, cap5, rfl⟩ := hA5.own.pos (Nat.succ_pos _)
             clear hA5 hA6 h6 hB6))
        all_goals (
          go_wp2
          refine ⟨⟨i + 1, by omega, rfl, ?_, HB6.out.setCell (by exact HO2.out.lo) _⟩, by simp [intOf]; omega⟩
          have h6 := H6.out
          rw [List.range_succ, List.map_append, ← List.append_assoc, HYS.out]
          have e : numAt false bytes n i = by8 (n / 2 ^ (8 * ((bytes : Int) - 1 - i)).toNat) := by
            unfold numAt
            have e2 : (8 * ((bytes : Int) - 1 - i)).toNat = 8 * (bytes - 1 - i) := by omega
            rw [e2]; rfl
          rw [← e] at h6
          exact h6)
    · obtain rfl : i = bytes := by omega
      go_wp2
      go_end0
      exact ⟨rfl, ho2, hbel⟩

end Go.Proofs.YtfppgplboomdbaaGreatDoor

namespace Go.Proofs.YtfppgplboomdbaaGreatDoor
open Go.RowKit

theorem strCells_bcs (s : ByteArray) : Lib.strCells s = bcs s.data.toList := rfl
/-- append of a string's bytes onto an owned slice of bytes, as one step of a region that draws. -/
theorem step_append_str {P : Program} {w : World} {ops : Array Oper} {o : Oper} {a : Act} {K : Act → World → Prop} {Q : Exit → Act → World → Prop} {E : Prop}
    (hg : o.guard = none) (s x : Operand) (t u : TypeId) (hop : o.op = Op.call { callee := Callee.builtin Builtin.append, args := #[s, x], argTypes := #[t, u] })
    (B : Nat) (e : TypeId) (i : TypeInfo) (h1 : P.underlying t = some (.slice e)) (hu : P.underlying u = some .string) (h2 : P.info? e = some i) (h3 : i.zero = some (.int .u8 0)) (h4 : i.size = 1) (h5 : i.bytes = 1)
    (v : Value) (n : Nat) (xs : List Value) (hs : a.eval s = v) (hown : OwnS w B 1 v n xs)
    (str : ByteArray) (hx : a.eval x = .string str) (m : Nat) (hm : str.size = m) (hm0 : 0 < m)
    (b1 : n + m ≤ maxLen) (b2 : n + m ≤ 140737488355328) (hB : B ≤ w.heap.size)
    (hK : ∀ v' w', AppLeft w B 1 n m v xs (bcs str.data.toList) v' w' → K (a.put o.dst v') w') :
    if Region.wanted o (yielded ops a.tmps) = true then Oper.wp P o a w K Q else E := by
  subst hm
  have hw : Region.wanted o (yielded ops a.tmps) = true := by simp [Region.wanted, hg]
  rw [if_pos hw]
  have hl := hown.1
  rw [Nat.mul_one] at hl
  have hsl : (bcs str.data.toList).length = str.size := Lib.strCells_length str
  have hms : n + str.size ≤ 9223372036854775807 := by simp only [maxLen] at b1; omega
  have grown : ∀ (cap' : Nat) (C : Array Value), n + str.size ≤ cap' → cap' ≤ maxLen → C.size = cap' → (∀ (j : Nat) (q : Value), (xs ++ bcs str.data.toList)[j]? = some q → C[j]? = some q) → (∀ k, v.ownBlock = some k → k < w.heap.size) →
      (Builtin.append_ #[t, u] o.type #[v, .string str]).run P w = .ok (.slice (some ⟨w.heap.size, 0, none⟩) (n + str.size) cap') (w.drew.alloc (.cells C e)) →
      Oper.wp P o a w K Q := fun cap' C hge hcm hcl hC hvb hrun => by
    unfold Oper.wp
    simp [execOp, hop, resolve, invoke, builtin, hs, hx, hrun, Result.andThen]
    have hlow : ∀ k, k < w.heap.size → (w.drew.alloc (.cells C e)).heap[k]? = w.heap[k]? := fun k hk => Below.heap_alloc w.drew _ k hk
    refine hK _ _ ⟨⟨by rw [List.length_append, hl, hsl, Nat.mul_one], .inr ⟨w.heap.size, _, rfl, hB, by simp, hge, hcm, fun j q hq => ?_, fun j hj => ?_⟩⟩, ⟨rfl, rfl, rfl, by simp, fun k hk => hlow k (by omega)⟩, by simp, fun k hk _ => hlow k hk, fun k hk => .inr ?_, fun k j hk hj => World.cell?_of_block (a := ⟨k, j, none⟩) (hlow k (hvb k hk))⟩
    · exact (cell_of_row (w.drew.alloc (.cells C e)) w.heap.size j _ _ _ (heap_alloc_new w.drew _)).trans (hC j q hq)
    · have ht := there_alloc_new w.drew C e cap' hcl.symm j (by omega)
      simpa using ht
    · have e' : w.heap.size = k := Option.some.inj hk
      omega
  have zz : ∀ (old : Nat), old < n + str.size → (xs.toArray ++ (Lib.strCells str).toArray ++ Builtin.zeroCells (Value.int .u8 0).cells (grownCap w (n + str.size) old e - (n + str.size))).size = grownCap w (n + str.size) old e ∧
      ∀ (j : Nat) (q : Value), (xs ++ bcs str.data.toList)[j]? = some q → (xs.toArray ++ (Lib.strCells str).toArray ++ Builtin.zeroCells (Value.int .u8 0).cells (grownCap w (n + str.size) old e - (n + str.size)))[j]? = some q := fun old ho => by
    have hge := grownCap_ge w (n + str.size) old e
    have hz1 : (Value.int IntKind.u8 0).cells.size = 1 := rfl
    refine ⟨?_, fun j q hq => ?_⟩
    · simp only [Array.size_append, List.size_toArray, size_zeroCells, hz1, hl, Lib.strCells_length]
      omega
    · rw [← Array.getElem?_toList, Array.toList_append, Array.toList_append, List.getElem?_append_left]
      · exact hq
      · exact (List.getElem?_eq_some_iff.1 hq).1
  obtain ⟨hl', ⟨rfl, rfl⟩ | ⟨g, cap, rfl, hgB, hlt, hnc, hcm, hcell, hspare⟩⟩ := hown
  · obtain rfl : xs = [] := List.eq_nil_of_length_eq_zero (by simpa using hl')
    have hr := run_append_nil_string (P := P) w t u o.type e i (.int .u8 0) h1 hu h2 h3 str (by omega) (by omega) (by rw [h5]; omega)
    have e1 : (str.data.map fun b => Value.int .u8 b.toNat) = (Lib.strCells str).toArray := by
      apply Array.ext'
      simp [Lib.strCells]
    rw [e1] at hr
    obtain ⟨z1, z2⟩ := zz 0 (by omega)
    simp only [Nat.zero_add, List.nil_append] at hr z1 z2 grown
    refine grown _ _ (by have := grownCap_ge w str.size 0 e; omega) (grownCap_le_maxLen w _ 0 e (by simpa using b1)) z1 z2 (fun k hk => by simp [Value.ownBlock] at hk) ?_
    rw [hr]; simp
  · by_cases hr : n + str.size ≤ cap
    · have hf := Lib.run_firstCells_string (P := P) w 1 str
      have hin : ∀ j, j < (Lib.strCells str).length → (w.cell? ⟨g, n + j, none⟩).isSome = true := fun j hj => by
        rw [Lib.strCells_length] at hj; exact (hspare _ (by omega)).1
      have hst := run_storeCells_cells (P := P) g n (Lib.strCells str) 0 w (by simpa using hin) (fun j hj => by
        rw [Lib.strCells_length] at hj; simpa using (hspare (n + j) (by omega)).2) (Lib.strCells_oneCell str)
      simp only [Nat.add_zero] at hst
      have hrun : (Builtin.append_ #[t, u] o.type #[.slice (some ⟨g, 0, none⟩) n cap, .string str]).run P w = .ok (.slice (some ⟨g, 0, none⟩) (n + str.size) cap) (w.setCells g n (Lib.strCells str)) := by
        simp [Builtin.append_, run_underlying h1, run_underlying hu, sizeOf, typeInfo, h2, h4, Builtin.lenOf, hr, hf, Addr.add_lit, hst]
      unfold Oper.wp
      simp [execOp, hop, resolve, invoke, builtin, hs, hx, hrun, Result.andThen]
      rw [strCells_bcs]
      rw [strCells_bcs] at hin
      refine hK _ _ ⟨⟨by rw [List.length_append, hl, hsl, Nat.mul_one], .inr ⟨g, cap, rfl, hgB, by rw [setCells_size]; exact hlt, hr, hcm, fun j q hq => ?_, fun j hb => ?_⟩⟩, ⟨(setCells_rest _ _ _ _).1, (setCells_rest _ _ _ _).2.1, (setCells_rest _ _ _ _).2.2, by rw [setCells_size]; exact Nat.le_refl _, fun k hk => setCells_block _ _ _ _ _ (by omega)⟩, by rw [setCells_size]; exact Nat.le_refl _, fun k hk hne => setCells_block _ _ _ _ _ (fun e => hne (by simp [Value.ownBlock, e])), fun k hk => .inl hk, fun k j hk hj => by simp [Value.ownBlock] at hk; subst hk; exact World.cell?_setCells_out _ _ _ _ _ (fun _ _ => .inl (by show j < n; omega))⟩
      · by_cases hj : j < xs.length
        · rw [List.getElem?_append_left hj] at hq
          rw [World.cell?_setCells_out _ _ _ _ _ (fun _ _ => .inl (by show j < n; omega))]
          exact hcell j q hq
        · rw [List.getElem?_append_right (by omega)] at hq
          obtain ⟨hj2, hu2⟩ := List.getElem?_eq_some_iff.1 hq
          have := World.cell?_setCells_in g (bcs str.data.toList) n w hin (j - xs.length) hj2
          rw [hu2] at this
          have e : n + (j - xs.length) = j := by omega
          rw [e] at this; exact this
      · rw [World.frozen?_setCells]
        refine ⟨?_, (hspare j hb).2⟩
        by_cases hj1 : j < n
        · rw [World.cell?_setCells_out _ _ _ _ _ (fun _ _ => .inl (by show j < n; omega))]
          exact (hspare j hb).1
        · by_cases hj2 : j < n + str.size
          · have := World.cell?_setCells_in g (bcs str.data.toList) n w hin (j - n) (by omega)
            have e : n + (j - n) = j := by omega
            rw [e] at this; rw [this]; rfl
          · rw [World.cell?_setCells_out _ _ _ _ _ (fun _ _ => .inr (by show n + (bcs str.data.toList).length ≤ j; omega))]
            exact (hspare j hb).1
    · have hr2 := Lib.run_append_grow_string (P := P) w t u o.type e i (.int .u8 0) h1 hu h2 h3 ⟨g, 0, none⟩ n cap xs (by rw [h4]; omega) (fun j q hq => by rw [Addr.add_lit, Nat.zero_add]; exact hcell j q hq) str (by omega) (by omega) (by rw [h5]; exact growslice_fits (by omega) (by omega))
      obtain ⟨z1, z2⟩ := zz cap (by omega)
      exact grown _ _ (grownCap_ge w _ cap e) (grownCap_le_maxLen w _ cap e b1) z1 z2 (fun k hk => by
        have e' : g = k := Option.some.inj hk
        omega) hr2
theorem wpList_append_str {P : Program} {w : World} {ops : Array Oper} {rest : List Oper} {o : Oper} {a : Act} {Q : Exit → Act → World → Prop}
    (hg : o.guard = none) (s x : Operand) (t u : TypeId) (hop : o.op = Op.call { callee := Callee.builtin Builtin.append, args := #[s, x], argTypes := #[t, u] })
    (B : Nat) (e : TypeId) (i : TypeInfo) (h1 : P.underlying t = some (.slice e)) (hu : P.underlying u = some .string) (h2 : P.info? e = some i) (h3 : i.zero = some (.int .u8 0)) (h4 : i.size = 1) (h5 : i.bytes = 1)
    (v : Value) (n : Nat) (xs : List Value) (hs : a.eval s = v) (hown : OwnS w B 1 v n xs)
    (str : ByteArray) (hx : a.eval x = .string str) (m : Nat) (hm : str.size = m) (hm0 : 0 < m)
    (b1 : n + m ≤ maxLen) (b2 : n + m ≤ 140737488355328) (hB : B ≤ w.heap.size)
    (hK : ∀ v' w', AppLeft w B 1 n m v xs (bcs str.data.toList) v' w' → wpList P ops Q rest (a.put o.dst v') w') :
    wpList P ops Q (o :: rest) a w := by
  refine wpList_plain hg fun K hK' => ?_
  have := step_append_str (P := P) (ops := ops) (K := K) (Q := Q) (E := True) hg s x t u hop B e i h1 hu h2 h3 h4 h5 v n xs hs hown str hx m hm hm0 b1 b2 hB (fun v' w' h => hK' _ _ (hK v' w' h))
  have hw : Region.wanted o (yielded ops a.tmps) = true := by simp [Region.wanted, hg]
  rwa [if_pos hw] at this

end Go.Proofs.YtfppgplboomdbaaGreatDoor
