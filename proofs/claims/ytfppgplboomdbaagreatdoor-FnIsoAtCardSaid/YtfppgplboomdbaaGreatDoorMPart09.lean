/- Part of the proofs of laws.FnIsoTree and laws.FnIsoAt: lemmas and contracts of functions that the two laws reach, each under the hypotheses that its own statement names. -/
import Derived.Test.YtfppgplboomdbaaGreatDoorMPart08
import Derived.Test.YtfppgplboomdbaaGreatDoorMPart04
namespace Go.Proofs.YtfppgplboomdbaaGreatDoor
open Go.RowKit

theorem baseAt_none (l : Bs) : ∀ k, (∀ j, j < k → l[j]? ≠ some 47) → baseAt l k = ([], l)
  | 0, _ => rfl
  | k + 1, h => by
    unfold baseAt
    rw [if_neg (h k (by omega))]
    exact baseAt_none l k (fun j hj => h j (by omega))
theorem baseAt_hit (l : Bs) (i : Nat) (hi : l[i]? = some 47) : ∀ k, i < k → (∀ j, i < j → j < k → l[j]? ≠ some 47) → baseAt l k = (l.take i, l.drop (i + 1))
  | 0, h, _ => by omega
  | k + 1, h, hn => by
    unfold baseAt
    by_cases e : k = i
    · subst e; rw [if_pos hi]
    · rw [if_neg (hn k (by omega) (by omega))]
      exact baseAt_hit l i hi k (by omega) (fun j h1 h2 => hn j h1 (by omega))
theorem baseL_joinP (ps : List Bs) {e : Bs} (he : 47 ∉ e) : baseL (joinP (ps ++ [e])) = (joinP ps, e) := by
  by_cases h : ps = []
  · subst h
    rw [List.nil_append, joinP_one]
    exact baseAt_none _ _ (fun j _ hj => he (List.mem_of_getElem? hj))
  · rw [joinP_snoc ps e h]
    have hb := baseAt_hit (joinP ps ++ 47 :: e) (joinP ps).length (by simp) (joinP ps ++ 47 :: e).length (by simp) (fun j h1 h2 h3 => by
      rw [List.getElem?_append_right (by omega)] at h3
      obtain ⟨d, hd⟩ : ∃ d, j - (joinP ps).length = d + 1 := ⟨j - (joinP ps).length - 1, by omega⟩
      rw [hd, List.getElem?_cons_succ] at h3
      exact he (List.mem_of_getElem? h3))
    show baseAt _ _ = _
    rw [hb]
    simp
theorem joinP_len : ∀ ps : List Bs, (∀ e ∈ ps, e.length ≤ 12) → (joinP ps).length ≤ 13 * ps.length
  | [], _ => by simp
  | [e], h => by rw [joinP_one]; have := h e (by simp); simp; omega
  | e :: f :: ps, h => by
    rw [joinP_cons]
    have h1 := h e (by simp)
    have h2 := joinP_len (f :: ps) (fun x hx => h x (List.mem_cons_of_mem _ hx))
    simp at h2 ⊢; omega

/-- A good tree. -/
structure Good (fs : List FileD) : Prop where
  few : fs.length ≤ 40
  path : ∀ (k : Nat) (f : FileD), fs[k]? = some f → ∃ (ps : List Bs) (e : Bs), f.path.data.toList = joinP (ps ++ [e]) ∧ (∀ x ∈ ps, PName x true) ∧ PName e f.dir ∧ ps.length ≤ 6 ∧ (ps = [] ∨ ∃ (j : Nat) (f' : FileD), j < k ∧ fs[j]? = some f' ∧ f'.dir = true ∧ f'.path.data.toList = joinP ps)
  once : ∀ (j k : Nat) (f g : FileD), fs[j]? = some f → fs[k]? = some g → f.path.data.toList = g.path.data.toList → j = k
  dirE : ∀ (k : Nat) (f : FileD), fs[k]? = some f → f.dir = true → f.data.size = 0
  noT : ∀ (k : Nat) (f : FileD), fs[k]? = some f → f.target.size = 0
  size : ∀ (k : Nat) (f : FileD), fs[k]? = some f → f.data.size ≤ 60000
/-- Each directory has its own last name. -/
def Apart (fs : List FileD) : Prop := ∀ (j k : Nat) (f g : FileD), fs[j]? = some f → fs[k]? = some g → f.dir = true → g.dir = true → nameOf f = nameOf g → j = k
theorem Good.parts {fs : List FileD} (h : Good fs) {k : Nat} {f : FileD} (hf : fs[k]? = some f) : ∃ (ps : List Bs) (e : Bs), f.path.data.toList = joinP (ps ++ [e]) ∧ (∀ x ∈ ps, PName x true) ∧ PName e f.dir ∧ ps.length ≤ 6 ∧ dirOf f = joinP ps ∧ nameOf f = e ∧
    (ps = [] ∨ ∃ (j : Nat) (f' : FileD), j < k ∧ fs[j]? = some f' ∧ f'.dir = true ∧ f'.path.data.toList = joinP ps) := by
  obtain ⟨ps, e, h1, h2, h3, h4, h5⟩ := h.path k f hf
  have hb := baseL_joinP ps (e := e) h3.plain.no47
  exact ⟨ps, e, h1, h2, h3, h4, by unfold dirOf; rw [h1, hb], by unfold nameOf; rw [h1, hb], h5⟩
theorem Good.files {fs : List FileD} (h : Good fs) : FilesOK fs := by
  have hsm : ∀ (k : Nat) (f : FileD), fs[k]? = some f → f.path.size ≤ 1000000 := fun k f hf => by
    obtain ⟨ps, e, h1, h2, h3, h4, _⟩ := h.path k f hf
    have hl := joinP_len (ps ++ [e]) (fun x hx => by
      rw [List.mem_append, List.mem_singleton] at hx
      rcases hx with hx | rfl
      · exact (h2 x hx).le
      · exact h3.le)
    rw [← h1] at hl
    have hs : f.path.size = f.path.data.toList.length := by rw [Array.length_toList]; rfl
    simp only [List.length_append, List.length_singleton] at hl
    omega
  refine ⟨⟨by have := h.few; omega, hsm, fun k f hf => ?_, fun k f hf => ?_⟩, h.few, fun k f hf => ?_, fun k f hf => by have := h.size k f hf; omega⟩
  · obtain ⟨ps, e, h1, h2, h3, h4, h5, h6, _⟩ := h.parts hf
    rw [h6]; exact h3.plain.ne
  · obtain ⟨ps, e, h1, h2, h3, h4, h5, h6, h7⟩ := h.parts hf
    rw [h5]
    rcases h7 with rfl | h7
    · exact .inl rfl
    · exact .inr h7
  · obtain ⟨ps, e, h1, h2, h3, h4, h5, h6, _⟩ := h.parts hf
    unfold idOf
    rw [h6]
    have := h3.le
    split <;> simp <;> omega

/-- The parts of a node's path. -/
def pth (nd : Nat → Nd) (x : Nat) : List Bs := if x = 0 then [] else Go.Lib.Pa.els (nd x).f.path.data.toList
/-- A node's name. -/
def nmN (nd : Nat → Nd) (x : Nat) : Bs := nameOf (nd x).f
structure GoodN (nd : Nat → Nd) (n : Nat) : Prop where
  root : (nd 0).f = rootF ∧ (nd 0).parent = 0
  par : ∀ x, 1 ≤ x → x < n → (nd x).parent < x ∧ (nd (nd x).parent).f.dir = true
  parts : ∀ x, 1 ≤ x → x < n → pth nd x = pth nd (nd x).parent ++ [nmN nd x]
  name : ∀ x, 1 ≤ x → x < n → PName (nmN nd x) (nd x).f.dir
  id : ∀ x, 1 ≤ x → x < n → nid nd x = if (nd x).f.dir then nmN nd x else nmN nd x ++ [59, 49]
  path : ∀ x, x < n → (nd x).f.path.data.toList = joinP (pth nd x)
  plain : ∀ x, x < n → ∀ e ∈ pth nd x, ∃ d, PName e d
  deep : ∀ x, x < n → (pth nd x).length ≤ 7
  uniq : ∀ x y, x < n → y < n → (nd x).f.path.data.toList = (nd y).f.path.data.toList → x = y
theorem Good.nodes {fs : List FileD} {nd : Nat → Nd} (h : Good fs) (hn : NodesOf fs nd) : GoodN nd (fs.length + 1) := by
  have hroot : (nd 0).f.path.data.toList = [] := by rw [hn.root.1]; rfl
  have hget : ∀ x, 1 ≤ x → x < fs.length + 1 → ∃ (f : FileD), fs[x - 1]? = some f ∧ (nd x).f = f ∧ nid nd x = idOf f ∧ (nd x).parent < x ∧ (nd (nd x).parent).f.dir = true ∧ (nd (nd x).parent).f.path.data.toList = dirOf f := fun x h1 h2 => by
    obtain ⟨f, a1, a2, a3, a4, a5, a6⟩ := hn.node (x - 1) (by omega)
    have e : x - 1 + 1 = x := by omega
    rw [e] at a2 a3 a4 a5 a6
    exact ⟨f, a1, a2, a3, by omega, a5, a6⟩
  have hne : ∀ x, 1 ≤ x → x < fs.length + 1 → (nd x).f.path.data.toList ≠ [] := fun x h1 h2 => by
    obtain ⟨f, a1, a2, _⟩ := hget x h1 h2
    obtain ⟨ps, e, b1, b2, b3, _⟩ := h.path _ _ a1
    rw [a2, b1]
    exact joinP_ne (by simp) (fun y hy => by
      rw [List.mem_append, List.mem_singleton] at hy
      rcases hy with hy | rfl
      · exact (b2 y hy).plain
      · exact b3.plain)
  have hfull : ∀ x, 1 ≤ x → x < fs.length + 1 → ∃ (ps : List Bs) (e : Bs), pth nd x = ps ++ [e] ∧ pth nd (nd x).parent = ps ∧ nmN nd x = e ∧ (∀ y ∈ ps, PName y true) ∧ PName e (nd x).f.dir ∧ ps.length ≤ 6 ∧ (nd x).f.path.data.toList = joinP (ps ++ [e]) := fun x h1 h2 => by
    obtain ⟨f, a1, a2, a3, a4, a5, a6⟩ := hget x h1 h2
    obtain ⟨ps, e, b1, b2, b3, b4, b5, b6, b7⟩ := h.parts a1
    have hall : ∀ y ∈ ps ++ [e], 47 ∉ y := fun y hy => by
      rw [List.mem_append, List.mem_singleton] at hy
      rcases hy with hy | rfl
      · exact (b2 y hy).plain.no47
      · exact b3.plain.no47
    refine ⟨ps, e, ?_, ?_, by unfold nmN; rw [a2, b6], b2, by rw [a2]; exact b3, b4, by rw [a2, b1]⟩
    · unfold pth
      rw [if_neg (by omega), a2, b1, els_joinP _ (by simp) hall]
    · rw [b5] at a6
      by_cases hp : ps = []
      · subst hp
        have h0 : (nd x).parent = 0 := by
          rcases Nat.eq_zero_or_pos (nd x).parent with h0 | h0
          · exact h0
          · exact absurd a6 (hne _ h0 (by omega))
        rw [h0]; rfl
      · have h0 : (nd x).parent ≠ 0 := fun h0 => by
          rw [h0, hroot] at a6
          exact joinP_ne hp (fun y hy => (b2 y hy).plain) a6.symm
        unfold pth
        rw [if_neg h0, a6, els_joinP ps hp (fun y hy => hall y (by simp [hy]))]
  refine ⟨hn.root, fun x h1 h2 => ?_, fun x h1 h2 => ?_, fun x h1 h2 => ?_, fun x h1 h2 => ?_, fun x h2 => ?_, fun x h2 e he => ?_, fun x h2 => ?_, fun x y hx hy he => ?_⟩
  · obtain ⟨f, a1, a2, a3, a4, a5, a6⟩ := hget x h1 h2
    exact ⟨a4, a5⟩
  · obtain ⟨ps, e, b1, b2, b3, _⟩ := hfull x h1 h2
    rw [b1, b2, b3]
  · obtain ⟨ps, e, b1, b2, b3, b4, b5, _⟩ := hfull x h1 h2
    rw [b3]; exact b5
  · obtain ⟨f, a1, a2, a3, a4, a5, a6⟩ := hget x h1 h2
    rw [a3]; unfold nmN idOf; rw [a2]
  · rcases Nat.eq_zero_or_pos x with rfl | h1
    · rw [hroot]; rfl
    · obtain ⟨ps, e, b1, b2, b3, b4, b5, b6, b7⟩ := hfull x h1 h2
      rw [b7, b1]
  · rcases Nat.eq_zero_or_pos x with rfl | h1
    · simp [pth] at he
    · obtain ⟨ps, e', b1, b2, b3, b4, b5, b6, b7⟩ := hfull x h1 h2
      rw [b1, List.mem_append, List.mem_singleton] at he
      rcases he with he | rfl
      · exact ⟨true, b4 e he⟩
      · exact ⟨_, b5⟩
  · rcases Nat.eq_zero_or_pos x with rfl | h1
    · simp [pth]
    · obtain ⟨ps, e', b1, b2, b3, b4, b5, b6, b7⟩ := hfull x h1 h2
      rw [b1]; simp; omega
  · rcases Nat.eq_zero_or_pos x with rfl | h1
    · rcases Nat.eq_zero_or_pos y with rfl | h2
      · rfl
      · rw [hroot] at he; exact absurd he.symm (hne y h2 hy)
    · rcases Nat.eq_zero_or_pos y with rfl | h2
      · rw [hroot] at he; exact absurd he (hne x h1 hx)
      · obtain ⟨f, a1, a2, _⟩ := hget x h1 hx
        obtain ⟨g, c1, c2, _⟩ := hget y h2 hy
        rw [a2, c2] at he
        have := h.once _ _ _ _ a1 c1 he
        omega
theorem Apart.nodes {fs : List FileD} {nd : Nat → Nd} (h : Apart fs) (hn : NodesOf fs nd) : ∀ x y, 1 ≤ x → x < fs.length + 1 → 1 ≤ y → y < fs.length + 1 → (nd x).f.dir = true → (nd y).f.dir = true → nmN nd x = nmN nd y → x = y := fun x y h1 h2 h3 h4 d1 d2 he => by
  obtain ⟨f, a1, a2, _⟩ := hn.node (x - 1) (by omega)
  obtain ⟨g, c1, c2, _⟩ := hn.node (y - 1) (by omega)
  have e1 : x - 1 + 1 = x := by omega
  have e2 : y - 1 + 1 = y := by omega
  rw [e1] at a2; rw [e2] at c2
  unfold nmN at he
  rw [a2, c2] at he
  rw [a2] at d1; rw [c2] at d2
  have := h _ _ _ _ a1 c1 d1 d2 he
  omega

end Go.Proofs.YtfppgplboomdbaaGreatDoor

namespace Go.Proofs.YtfppgplboomdbaaGreatDoor
open Go.RowKit

/-- The nodes below i, each directory ahead of what it holds. -/
def pre (nd : Nat → Nd) (ks : Nat → List Nat) : Nat → Nat → List Nat
  | 0, _ => []
  | f + 1, i => (ks i).flatMap fun k => k :: (if (nd k).f.dir then pre nd ks f k else [])
theorem pre_mem {nd : Nat → Nd} {ks : Nat → List Nat} {f i x : Nat} : x ∈ pre nd ks (f + 1) i ↔ ∃ k ∈ ks i, x = k ∨ ((nd k).f.dir = true ∧ x ∈ pre nd ks f k) := by
  have hu : pre nd ks (f + 1) i = (ks i).flatMap fun k => k :: (if (nd k).f.dir then pre nd ks f k else []) := rfl
  rw [hu, List.mem_flatMap]
  constructor
  · rintro ⟨k, hk, hx⟩
    rw [List.mem_cons] at hx
    rcases hx with hx | hx
    · exact ⟨k, hk, .inl hx⟩
    · by_cases hd : (nd k).f.dir = true
      · rw [if_pos hd] at hx; exact ⟨k, hk, .inr ⟨hd, hx⟩⟩
      · rw [if_neg hd] at hx; simp at hx
  · rintro ⟨k, hk, hx | ⟨hd, hx⟩⟩
    · exact ⟨k, hk, by simp [hx]⟩
    · exact ⟨k, hk, by rw [if_pos hd]; simp [hx]⟩
theorem pre_range {nd : Nat → Nd} {ks : Nat → List Nat} {n : Nat} (h : Tree nd ks n) : ∀ f i, i < n → ∀ x ∈ pre nd ks f i, 1 ≤ x ∧ x < n
  | 0, _, _, x, hx => by simp [pre] at hx
  | f + 1, i, hi, x, hx => by
    obtain ⟨k, hk, hx⟩ := pre_mem.1 hx
    have hk2 := (h.mem i hi k).1 hk
    rcases hx with rfl | ⟨_, hx⟩
    · exact ⟨hk2.1, hk2.2.1⟩
    · exact pre_range h f k hk2.2.1 x hx
theorem kid_pth {nd : Nat → Nd} {ks : Nat → List Nat} {n : Nat} (h : Tree nd ks n) (g : GoodN nd n) {i k : Nat} (hi : i < n) (hk : k ∈ ks i) : pth nd k = pth nd i ++ [nmN nd k] := by
  obtain ⟨h1, h2, h3⟩ := (h.mem i hi k).1 hk
  rw [g.parts k h1 h2, h3]
theorem pre_prefix {nd : Nat → Nd} {ks : Nat → List Nat} {n : Nat} (h : Tree nd ks n) (g : GoodN nd n) : ∀ f i, i < n → ∀ x ∈ pre nd ks f i, ∃ t, t ≠ [] ∧ pth nd x = pth nd i ++ t
  | 0, _, _, x, hx => by simp [pre] at hx
  | f + 1, i, hi, x, hx => by
    obtain ⟨k, hk, hx⟩ := pre_mem.1 hx
    have hk2 := (h.mem i hi k).1 hk
    have hp := kid_pth h g hi hk
    rcases hx with rfl | ⟨_, hx⟩
    · exact ⟨_, by simp, hp⟩
    · obtain ⟨t, ht, e⟩ := pre_prefix h g f k hk2.2.1 x hx
      exact ⟨[nmN nd k] ++ t, by simp, by rw [e, hp, List.append_assoc]⟩
theorem kid_inj {nd : Nat → Nd} {ks : Nat → List Nat} {n : Nat} (h : Tree nd ks n) (g : GoodN nd n) {i k k' : Nat} (hi : i < n) (hk : k ∈ ks i) (hk' : k' ∈ ks i) (he : nmN nd k = nmN nd k') : k = k' := by
  have h1 := (h.mem i hi k).1 hk
  have h2 := (h.mem i hi k').1 hk'
  refine g.uniq k k' h1.2.1 h2.2.1 ?_
  rw [g.path k h1.2.1, g.path k' h2.2.1, kid_pth h g hi hk, kid_pth h g hi hk', he]
theorem pre_nodup {nd : Nat → Nd} {ks : Nat → List Nat} {n : Nat} (h : Tree nd ks n) (g : GoodN nd n) : ∀ f i, i < n → (pre nd ks f i).Nodup
  | 0, _, _ => by simp [pre]
  | f + 1, i, hi => by
    have hpre : ∀ k ∈ ks i, ∀ x ∈ k :: (if (nd k).f.dir then pre nd ks f k else []), ∃ t, pth nd x = pth nd i ++ nmN nd k :: t := fun k hk x hx => by
      have hp := kid_pth h g hi hk
      have hk2 := (h.mem i hi k).1 hk
      rw [List.mem_cons] at hx
      rcases hx with rfl | hx
      · exact ⟨[], hp⟩
      · by_cases hd : (nd k).f.dir = true
        · rw [if_pos hd] at hx
          obtain ⟨t, _, e⟩ := pre_prefix h g f k hk2.2.1 x hx
          exact ⟨t, by rw [e, hp]; simp⟩
        · rw [if_neg hd] at hx; simp at hx
    have hu : pre nd ks (f + 1) i = (ks i).flatMap fun k => k :: (if (nd k).f.dir then pre nd ks f k else []) := rfl
    rw [hu, List.Nodup, List.pairwise_flatMap]
    refine ⟨fun k hk => ?_, ?_⟩
    · have hk2 := (h.mem i hi k).1 hk
      rw [List.pairwise_cons]
      by_cases hd : (nd k).f.dir = true
      · rw [if_pos hd]
        refine ⟨fun x hx e => ?_, pre_nodup h g f k hk2.2.1⟩
        obtain ⟨t, ht, e2⟩ := pre_prefix h g f k hk2.2.1 x hx
        subst e
        exact ht (by simpa using e2)
      · rw [if_neg hd]; simp
    · have := h.nodup i hi
      refine List.Pairwise.imp_of_mem (R := fun a b => a ≠ b) (fun {a b} ha hb hab x hx y hy e => hab ?_) this
      subst e
      obtain ⟨t1, e1⟩ := hpre a ha x hx
      obtain ⟨t2, e2⟩ := hpre b hb x hy
      rw [e1] at e2
      have e3 := List.append_cancel_left e2
      rw [List.cons.injEq] at e3
      exact kid_inj h g hi ha hb e3.1
theorem pre_closed {nd : Nat → Nd} {ks : Nat → List Nat} {n : Nat} (h : Tree nd ks n) (g : GoodN nd n) {p x : Nat} (hp : p < n) (hd : (nd p).f.dir = true) (hx : x ∈ ks p) : ∀ f i, i < n → 7 ≤ (pth nd i).length + f → p ∈ pre nd ks f i → x ∈ pre nd ks f i
  | 0, _, _, _, hm => by simp [pre] at hm
  | f + 1, i, hi, h7, hm => by
    obtain ⟨k, hk, hm⟩ := pre_mem.1 hm
    have hk2 := (h.mem i hi k).1 hk
    have hpk := kid_pth h g hi hk
    refine pre_mem.2 ⟨k, hk, .inr ?_⟩
    rcases hm with rfl | ⟨hdk, hm⟩
    · refine ⟨hd, ?_⟩
      have hx2 := (h.mem p hp x).1 hx
      have hpx := kid_pth h g hp hx
      have h8 := g.deep x hx2.2.1
      rw [hpx, hpk] at h8
      simp at h8
      cases f with
      | zero => omega
      | succ f => exact pre_mem.2 ⟨x, hx, .inl rfl⟩
    · exact ⟨hdk, pre_closed h g hp hd hx f k hk2.2.1 (by rw [hpk]; simp; omega) hm⟩
theorem pre_all {nd : Nat → Nd} {ks : Nat → List Nat} {n : Nat} (h : Tree nd ks n) (g : GoodN nd n) : ∀ x, 1 ≤ x → x < n → x ∈ pre nd ks 7 0 := fun x => by
  induction x using Nat.strongRecOn with
  | _ x ih =>
    intro h1 h2
    obtain ⟨h3, h4⟩ := h.par x h1 h2
    by_cases h0 : (nd x).parent = 0
    · exact pre_mem.2 ⟨x, (h.mem 0 h.pos x).2 ⟨h1, h2, h0⟩, .inl rfl⟩
    · exact pre_closed h g (by omega) h4 ((h.mem _ (by omega) x).2 ⟨h1, h2, rfl⟩) 7 0 h.pos (by omega) (ih _ h3 (by omega) (by omega))
theorem nodup_len_le : ∀ (n : Nat) (l : List Nat), l.Nodup → (∀ x ∈ l, 1 ≤ x ∧ x < n + 1) → l.length ≤ n
  | 0, l, _, hl => by
    cases l with
    | nil => simp
    | cons a l => have := hl a (by simp); omega
  | n + 1, l, h, hl => by
    by_cases hn : n + 1 ∈ l
    · have h1 := nodup_len_le n (l.erase (n + 1)) (h.erase _) (fun x hx => by
        have h2 := (h.mem_erase_iff).1 hx
        have := hl x h2.2
        have := h2.1
        omega)
      rw [List.length_erase_of_mem hn] at h1
      omega
    · have h1 := nodup_len_le n l h (fun x hx => by
        have := hl x hx
        have : x ≠ n + 1 := fun e => hn (e ▸ hx)
        omega)
      omega
theorem all_len_ge : ∀ (n : Nat) (l : List Nat), (∀ x, 1 ≤ x → x < n + 1 → x ∈ l) → n ≤ l.length
  | 0, _, _ => Nat.zero_le _
  | n + 1, l, hl => by
    have hn : n + 1 ∈ l := hl _ (by omega) (by omega)
    have h1 := all_len_ge n (l.erase (n + 1)) (fun x h2 h3 => (List.mem_erase_of_ne (by omega)).2 (hl x h2 (by omega)))
    rw [List.length_erase_of_mem hn] at h1
    have : 0 < l.length := List.length_pos_of_mem hn
    omega
theorem pre_len {nd : Nat → Nd} {ks : Nat → List Nat} {n : Nat} (h : Tree nd ks (n + 1)) (g : GoodN nd (n + 1)) : (pre nd ks 7 0).length = n :=
  Nat.le_antisymm (nodup_len_le n _ (pre_nodup h g 7 0 h.pos) (pre_range h 7 0 h.pos)) (all_len_ge n _ (pre_all h g))
theorem deep_none {nd : Nat → Nd} {ks : Nat → List Nat} {n : Nat} (h : Tree nd ks n) (g : GoodN nd n) {i : Nat} (hi : i < n) (h7 : 7 ≤ (pth nd i).length) : ks i = [] := by
  cases hk : ks i with
  | nil => rfl
  | cons k l =>
    have hm : k ∈ ks i := by rw [hk]; simp
    have h1 := kid_pth h g hi hm
    have h2 := g.deep k ((h.mem i hi k).1 hm).2.1
    rw [h1] at h2; simp at h2; omega
/-- What is told of a node. -/
structure LeafD where
  path : ByteArray
  name : ByteArray
  dir : Bool
  perm : Int
  size : Int
  time : Int
  data : ByteArray
structure LeafIs (nd : Nat → Nd) (k : Nat) (l : LeafD) : Prop where
  path : l.path.data.toList = (nd k).f.path.data.toList
  name : l.name.data.toList = nmN nd k
  dir : l.dir = (nd k).f.dir
  data : (nd k).f.dir = false → l.data = (nd k).f.data ∧ l.size = (nd k).f.data.size
/-- Leaves of nodes, in order. -/
structure Leaves (nd : Nat → Nd) (is : List Nat) (ls : List LeafD) : Prop where
  len : ls.length = is.length
  at_ : ∀ (j : Nat) (k : Nat) (l : LeafD), is[j]? = some k → ls[j]? = some l → LeafIs nd k l
theorem Leaves.nil (nd : Nat → Nd) : Leaves nd [] [] := ⟨rfl, fun j k l h => by simp at h⟩
theorem Leaves.append {nd : Nat → Nd} {is js : List Nat} {ls ms : List LeafD} (h1 : Leaves nd is ls) (h2 : Leaves nd js ms) : Leaves nd (is ++ js) (ls ++ ms) := by
  refine ⟨by simp [h1.len, h2.len], fun j k l hk hl => ?_⟩
  have hlen := h1.len
  by_cases hj : j < is.length
  · rw [List.getElem?_append_left hj] at hk
    rw [List.getElem?_append_left (by omega)] at hl
    exact h1.at_ j k l hk hl
  · rw [List.getElem?_append_right (by omega)] at hk hl
    rw [hlen] at hl
    exact h2.at_ _ k l hk hl
theorem Leaves.one {nd : Nat → Nd} {k : Nat} {l : LeafD} (h : LeafIs nd k l) : Leaves nd [k] [l] := ⟨rfl, fun j k' l' h1 h2 => by
  cases j with
  | zero => simp at h1 h2; subst h1; subst h2; exact h
  | succ j => simp at h1⟩
/-- The first leaf of a path. -/
theorem Leaves.find {fs : List FileD} {nd : Nat → Nd} {ks : Nat → List Nat} {ls : List LeafD} (hn : NodesOf fs nd) (h : Tree nd ks (fs.length + 1)) (g : GoodN nd (fs.length + 1)) (hl : Leaves nd (pre nd ks 7 0) ls) {i : Nat} {f : FileD} (hf : fs[i]? = some f) :
    ∃ (j : Nat) (l : LeafD), ls[j]? = some l ∧ l.path.data.toList = f.path.data.toList ∧ ∀ (j' : Nat) (l' : LeafD), ls[j']? = some l' → l'.path.data.toList = f.path.data.toList → LeafIs nd (i + 1) l' := by
  have hil : i < fs.length := (List.getElem?_eq_some_iff.1 hf).1
  obtain ⟨f', a1, a2, _⟩ := hn.node i hil
  rw [hf] at a1; cases a1
  obtain ⟨j, hj, e⟩ := List.getElem_of_mem (pre_all h g (i + 1) (by omega) (by omega))
  have hlen := hl.len
  have hjl : j < ls.length := by omega
  have hat := hl.at_ j (i + 1) ls[j] (by rw [List.getElem?_eq_getElem hj, e]) (List.getElem?_eq_getElem hjl)
  refine ⟨j, ls[j], List.getElem?_eq_getElem hjl, by rw [hat.path, a2], fun j' l' h1 h2 => ?_⟩
  have hj' : j' < ls.length := (List.getElem?_eq_some_iff.1 h1).1
  have hat' := hl.at_ j' (pre nd ks 7 0)[j'] l' (List.getElem?_eq_getElem (by omega)) h1
  have hr := pre_range h 7 0 h.pos _ (List.getElem_mem (by omega : j' < (pre nd ks 7 0).length))
  have he := g.uniq _ (i + 1) hr.2 (by omega) (by rw [← hat'.path, h2, a2])
  rw [he] at hat'
  exact hat'

end Go.Proofs.YtfppgplboomdbaaGreatDoor

namespace Go.Proofs.YtfppgplboomdbaaGreatDoor
open Go.RowKit

theorem els_ne (l : Bs) : Go.Lib.Pa.els l ≠ [] := by
  cases l with
  | nil => simp [Go.Lib.Pa.els]
  | cons c t =>
    unfold Go.Lib.Pa.els
    split
    · simp
    · split <;> simp
theorem joinP_els : ∀ l : Bs, joinP (Go.Lib.Pa.els l) = l
  | [] => by simp [Go.Lib.Pa.els]
  | c :: t => by
    have ih := joinP_els t
    unfold Go.Lib.Pa.els
    split
    · rename_i h
      subst h
      cases he : Go.Lib.Pa.els t with
      | nil => exact absurd he (els_ne t)
      | cons a r => rw [joinP_cons, ← he, ih]; rfl
    · cases he : Go.Lib.Pa.els t with
      | nil => exact absurd he (els_ne t)
      | cons a r =>
        rw [he] at ih
        show joinP ((c :: a) :: r) = c :: t
        cases r with
        | nil => rw [joinP_one] at ih ⊢; rw [ih]
        | cons b r => rw [joinP_cons] at ih ⊢; rw [List.cons_append, ih]
/-- What treeGood has in its map behind k files. -/
def seenL (fs : List FileD) (k : Nat) : List (Bs × Bool) := ([], true) :: (fs.take k).map fun f => (f.path.data.toList, f.dir)
theorem seenL_mem {fs : List FileD} {k : Nat} {p : Bs × Bool} : p ∈ seenL fs k ↔ p = ([], true) ∨ ∃ (j : Nat) (f : FileD), j < k ∧ fs[j]? = some f ∧ p = (f.path.data.toList, f.dir) := by
  unfold seenL
  rw [List.mem_cons, List.mem_map]
  constructor
  · rintro (h | ⟨f, h1, h2⟩)
    · exact .inl h
    · obtain ⟨j, hj⟩ := List.getElem?_of_mem h1
      rw [List.getElem?_take] at hj
      split at hj
      · rename_i hjk; exact .inr ⟨j, f, hjk, hj, h2.symm⟩
      · cases hj
  · rintro (h | ⟨j, f, h1, h2, h3⟩)
    · exact .inl h
    · refine .inr ⟨f, ?_, h3.symm⟩
      refine List.mem_of_getElem? (i := j) ?_
      rw [List.getElem?_take, if_pos h1]; exact h2
/-- What treeGood knows behind k files. -/
structure TG (fs : List FileD) (k : Nat) (n : Int) : Prop where
  le : k ≤ fs.length
  path : ∀ (j : Nat) (f : FileD), j < k → fs[j]? = some f → ∃ (ps : List Bs) (e : Bs), f.path.data.toList = joinP (ps ++ [e]) ∧ (∀ x ∈ ps, PName x true) ∧ PName e f.dir ∧ ps.length ≤ 6 ∧ (ps = [] ∨ ∃ (i : Nat) (f' : FileD), i < j ∧ fs[i]? = some f' ∧ f'.dir = true ∧ f'.path.data.toList = joinP ps)
  once : ∀ (i j : Nat) (f g : FileD), i < j → j < k → fs[i]? = some f → fs[j]? = some g → f.path.data.toList ≠ g.path.data.toList
  dirE : ∀ (j : Nat) (f : FileD), j < k → fs[j]? = some f → f.dir = true → f.data.size = 0
  noT : ∀ (j : Nat) (f : FileD), j < k → fs[j]? = some f → f.target.size = 0
  size : 0 ≤ n ∧ ∀ (j : Nat) (f : FileD), j < k → fs[j]? = some f → (f.data.size : Int) ≤ n
theorem TG.start (fs : List FileD) : TG fs 0 0 := ⟨Nat.zero_le _, fun j f h => by omega, fun i j f g h1 h2 => by omega, fun j f h => by omega, fun j f h => by omega, by omega, fun j f h => by omega⟩
theorem TG.step {fs : List FileD} {k : Nat} {n : Int} {f : FileD} (h : TG fs k n) (hf : fs[k]? = some f) {p : List Bs} (hp : Go.Lib.Pa.els f.path.data.toList = p)
    (hn : ∀ (i : Nat) (s : Bs), p[i]? = some s → PName s (f.dir || decide (i + 1 < p.length))) (hd : (joinP p.dropLast, true) ∈ seenL fs k) (hl : p.length ≤ 7) (hfr : ∀ b, (f.path.data.toList, b) ∉ seenL fs k)
    (h1 : f.dir = true → f.data.size = 0) (h2 : f.target.size = 0) : TG fs (k + 1) (n + f.data.size) := by
  have hkl : k < fs.length := (List.getElem?_eq_some_iff.1 hf).1
  have hne : p ≠ [] := by rw [← hp]; exact els_ne _
  have hpl : 0 < p.length := List.length_pos_iff.2 hne
  have hsplit : p = p.dropLast ++ [p[p.length - 1]'(by omega)] := by
    have h9 := List.dropLast_concat_getLast hne
    rw [List.getLast_eq_getElem] at h9
    exact h9.symm
  have hdl : p.dropLast.length = p.length - 1 := List.length_dropLast
  have hnames : ∀ x ∈ p.dropLast, PName x true := fun x hx => by
    obtain ⟨i, hi, e⟩ := List.getElem_of_mem hx
    have h4 : p[i]? = some x := by
      rw [hsplit, List.getElem?_append_left hi, List.getElem?_eq_getElem hi, e]
    have h5 := hn i x h4
    have h6 : (f.dir || decide (i + 1 < p.length)) = true := by
      rw [decide_eq_true (by omega)]; simp
    rw [h6] at h5; exact h5
  have hlast : PName (p[p.length - 1]'(by omega)) f.dir := by
    have h5 := hn (p.length - 1) _ (List.getElem?_eq_getElem (by omega))
    have h6 : (f.dir || decide (p.length - 1 + 1 < p.length)) = f.dir := by
      rw [decide_eq_false (by omega)]; simp
    rw [h6] at h5; exact h5
  refine ⟨by omega, fun j g hj hg => ?_, fun i j g g' hij hj hg hg' => ?_, fun j g hj hg => ?_, fun j g hj hg => ?_, by have := h.size.1; omega, fun j g hj hg => ?_⟩
  · by_cases e : j = k
    · subst e; rw [hf] at hg; cases hg
      refine ⟨p.dropLast, _, ?_, hnames, hlast, by omega, ?_⟩
      · rw [← hsplit, ← hp, joinP_els]
      · rcases seenL_mem.1 hd with h3 | ⟨i, f', h3, h4, h5⟩
        · left
          have h3 : joinP p.dropLast = [] := (Prod.mk.inj h3).1
          by_cases h4 : p.dropLast = []
          · exact h4
          · exact absurd h3 (joinP_ne h4 (fun x hx => (hnames x hx).plain))
        · exact .inr ⟨i, f', h3, h4, (Prod.mk.inj h5).2.symm, (Prod.mk.inj h5).1.symm⟩
    · exact h.path j g (by omega) hg
  · by_cases e : j = k
    · subst e; rw [hf] at hg'; cases hg'
      exact fun he => hfr g.dir (seenL_mem.2 (.inr ⟨i, g, hij, hg, by rw [he]⟩))
    · exact h.once i j g g' hij (by omega) hg hg'
  · by_cases e : j = k
    · subst e; rw [hf] at hg; cases hg; exact h1
    · exact h.dirE j g (by omega) hg
  · by_cases e : j = k
    · subst e; rw [hf] at hg; cases hg; exact h2
    · exact h.noT j g (by omega) hg
  · by_cases e : j = k
    · subst e; rw [hf] at hg; cases hg; have := h.size.1; omega
    · have := h.size.2 j g (by omega) hg; omega
theorem TG.good {fs : List FileD} {n : Int} (h : TG fs fs.length n) (hf : fs.length ≤ 40) (hn : n ≤ 60000) : Good fs := by
  have hlt : ∀ {j : Nat} {f : FileD}, fs[j]? = some f → j < fs.length := fun {j f} h => (List.getElem?_eq_some_iff.1 h).1
  refine ⟨hf, fun k f hk => h.path k f (hlt hk) hk, fun j k f g hj hk he => ?_, fun k f hk => h.dirE k f (hlt hk) hk, fun k f hk => h.noT k f (hlt hk) hk, fun k f hk => by have := h.size.2 k f (hlt hk) hk; omega⟩
  rcases Nat.lt_trichotomy j k with h1 | h1 | h1
  · exact absurd he (h.once j k f g h1 (hlt hk) hj hk)
  · exact h1
  · exact absurd he.symm (h.once k j g f h1 (hlt hj) hk hj)
/-- What apartDirs knows behind k files. -/
structure AP (fs : List FileD) (k : Nat) : Prop where
  le : k ≤ fs.length
  ap : ∀ (i j : Nat) (f g : FileD), i < j → j < k → fs[i]? = some f → fs[j]? = some g → f.dir = true → g.dir = true → (Go.Lib.Pa.els f.path.data.toList).getLast? ≠ (Go.Lib.Pa.els g.path.data.toList).getLast?
def dirL (fs : List FileD) (k : Nat) : List (Bs × Bool) := ((fs.take k).filter (·.dir)).map fun f => ((Go.Lib.Pa.els f.path.data.toList).getLast?.getD [], true)
theorem getLast_parts {fs : List FileD} (g : Good fs) {k : Nat} {f : FileD} (hf : fs[k]? = some f) : (Go.Lib.Pa.els f.path.data.toList).getLast? = some (nameOf f) := by
  obtain ⟨ps, e, h1, h2, h3, h4, h5, h6, _⟩ := g.parts hf
  rw [h6, h1, els_joinP _ (by simp) (fun y hy => by
    rw [List.mem_append, List.mem_singleton] at hy
    rcases hy with hy | rfl
    · exact (h2 y hy).plain.no47
    · exact h3.plain.no47)]
  simp
theorem AP.apart {fs : List FileD} (h : AP fs fs.length) (g : Good fs) : Apart fs := fun j k a b hj hk d1 d2 he => by
  have hlt : ∀ {j : Nat} {f : FileD}, fs[j]? = some f → j < fs.length := fun {j f} h => (List.getElem?_eq_some_iff.1 h).1
  have h1 := getLast_parts g hj
  have h2 := getLast_parts g hk
  rcases Nat.lt_trichotomy j k with h3 | h3 | h3
  · exact absurd (by rw [h1, h2, he]) (h.ap j k a b h3 (hlt hk) hj hk d1 d2)
  · exact h3
  · exact absurd (by rw [h1, h2, he]) (h.ap k j b a h3 (hlt hj) hk hj d2 d1)
def lastP (f : FileD) : Bs := (Go.Lib.Pa.els f.path.data.toList).getLast?.getD []
theorem dirL_mem {fs : List FileD} {k : Nat} {p : Bs × Bool} : p ∈ dirL fs k ↔ ∃ (j : Nat) (f : FileD), j < k ∧ fs[j]? = some f ∧ f.dir = true ∧ p = (lastP f, true) := by
  unfold dirL
  rw [List.mem_map]
  constructor
  · rintro ⟨f, h1, h2⟩
    rw [List.mem_filter] at h1
    obtain ⟨j, hj⟩ := List.getElem?_of_mem h1.1
    rw [List.getElem?_take] at hj
    split at hj
    · rename_i hjk; exact ⟨j, f, hjk, hj, h1.2, h2.symm⟩
    · cases hj
  · rintro ⟨j, f, h1, h2, h3, h4⟩
    refine ⟨f, List.mem_filter.2 ⟨List.mem_of_getElem? (i := j) ?_, h3⟩, h4.symm⟩
    rw [List.getElem?_take, if_pos h1]; exact h2
theorem AP.start (fs : List FileD) : AP fs 0 := ⟨Nat.zero_le _, fun i j f g h1 h2 => by omega⟩
theorem AP.file {fs : List FileD} {k : Nat} {f : FileD} (h : AP fs k) (hf : fs[k]? = some f) (hd : f.dir = false) : AP fs (k + 1) := by
  have hkl : k < fs.length := (List.getElem?_eq_some_iff.1 hf).1
  refine ⟨by omega, fun i j a b hij hj ha hb d1 d2 => ?_⟩
  by_cases e : j = k
  · subst e; rw [hf] at hb; cases hb; rw [hd] at d2; cases d2
  · exact h.ap i j a b hij (by omega) ha hb d1 d2
theorem AP.dir {fs : List FileD} {k : Nat} {f : FileD} (h : AP fs k) (hf : fs[k]? = some f) (hd : ∀ b, (lastP f, b) ∉ dirL fs k) : AP fs (k + 1) := by
  have hkl : k < fs.length := (List.getElem?_eq_some_iff.1 hf).1
  refine ⟨by omega, fun i j a b hij hj ha hb d1 d2 => ?_⟩
  by_cases e : j = k
  · subst e; rw [hf] at hb; cases hb
    intro he
    exact hd true (dirL_mem.2 ⟨i, a, hij, ha, d1, by unfold lastP; rw [he]⟩)
  · exact h.ap i j a b hij (by omega) ha hb d1 d2
theorem dirL_miss {fs : List FileD} {k : Nat} {s : Bs} (h : (s, false) ∈ dirL fs k) : False := by
  obtain ⟨j, f, _, _, _, e⟩ := dirL_mem.1 h
  cases e
theorem dirL_next {fs : List FileD} {k : Nat} {f : FileD} (hf : fs[k]? = some f) (p : Bs × Bool) : p ∈ dirL fs (k + 1) ↔ p ∈ dirL fs k ∨ (f.dir = true ∧ p = (lastP f, true)) := by
  rw [dirL_mem, dirL_mem]
  constructor
  · rintro ⟨j, g, h1, h2, h3, h4⟩
    by_cases e : j = k
    · subst e; rw [hf] at h2; cases h2; exact .inr ⟨h3, h4⟩
    · exact .inl ⟨j, g, by omega, h2, h3, h4⟩
  · rintro (⟨j, g, h1, h2, h3, h4⟩ | ⟨h3, h4⟩)
    · exact ⟨j, g, by omega, h2, h3, h4⟩
    · exact ⟨k, f, by omega, hf, h3, h4⟩
theorem seenL_next {fs : List FileD} {k : Nat} {f : FileD} (hf : fs[k]? = some f) (p : Bs × Bool) : p ∈ seenL fs (k + 1) ↔ p ∈ (f.path.data.toList, f.dir) :: seenL fs k := by
  rw [List.mem_cons, seenL_mem, seenL_mem]
  constructor
  · rintro (h | ⟨j, g, h1, h2, h4⟩)
    · exact .inr (.inl h)
    · by_cases e : j = k
      · subst e; rw [hf] at h2; cases h2; exact .inl h4
      · exact .inr (.inr ⟨j, g, by omega, h2, h4⟩)
  · rintro (h4 | h | ⟨j, g, h1, h2, h4⟩)
    · exact .inr ⟨k, f, by omega, hf, h4⟩
    · exact .inl h
    · exact .inr ⟨j, g, by omega, h2, h4⟩

end Go.Proofs.YtfppgplboomdbaaGreatDoor

namespace Go.Proofs.YtfppgplboomdbaaGreatDoor
open Go.RowKit

/-- Layers over a row of bytes. -/
def lay (D : Bs) (L : List (Nat × Bs)) : Bs := L.foldl (fun D p => splice D p.1 p.2) D
theorem lay_len : ∀ (L : List (Nat × Bs)) (D : Bs), (∀ p ∈ L, p.1 + p.2.length ≤ D.length) → (lay D L).length = D.length
  | [], _, _ => rfl
  | p :: L, D, h => by
    have h1 := length_splice D p.1 p.2 (h p (by simp))
    show (lay (splice D p.1 p.2) L).length = _
    rw [lay_len L _ (fun q hq => by rw [h1]; exact h q (by simp [hq])), h1]
theorem lay_keep (a n : Nat) : ∀ (L : List (Nat × Bs)) (D : Bs), (∀ p ∈ L, p.1 + p.2.length ≤ D.length ∧ (a + n ≤ p.1 ∨ p.1 + p.2.length ≤ a)) → a + n ≤ D.length → seg (lay D L) a n = seg D a n
  | [], _, _, _ => rfl
  | p :: L, D, h, hn => by
    have h1 := length_splice D p.1 p.2 (h p (by simp)).1
    show seg (lay (splice D p.1 p.2) L) a n = _
    rw [lay_keep a n L _ (fun q hq => by rw [h1]; exact h q (by simp [hq])) (by rw [h1]; exact hn), seg_splice_apart _ _ _ _ _ (h p (by simp)).1 hn (h p (by simp)).2]
theorem lay_seg (D : Bs) (L1 L2 : List (Nat × Bs)) (off n : Nat) (S : Bs) (hn : n = S.length) (h1 : ∀ p ∈ L1, p.1 + p.2.length ≤ D.length) (hS : off + S.length ≤ D.length) (h2 : ∀ p ∈ L2, p.1 + p.2.length ≤ D.length ∧ (off + n ≤ p.1 ∨ p.1 + p.2.length ≤ off)) :
    seg (lay D (L1 ++ (off, S) :: L2)) off n = S := by
  have e : lay D (L1 ++ (off, S) :: L2) = lay (splice (lay D L1) off S) L2 := by simp [lay]
  have hl := lay_len L1 D h1
  have hs : (splice (lay D L1) off S).length = D.length := by rw [length_splice _ _ _ (by rw [hl]; exact hS), hl]
  rw [e, lay_keep off n L2 _ (fun q hq => by rw [hs]; exact h2 q hq) (by rw [hs, hn]; exact hS), seg_splice_same _ _ _ _ (by rw [hl]; exact hS) hn]
theorem seg_set (D : Bs) (a n i : Nat) (b : UInt8) (h : a + n ≤ i ∨ i < a) : seg (D.set i b) a n = seg D a n := by
  unfold seg
  refine List.ext_getElem? (fun k => ?_)
  rw [List.getElem?_take, List.getElem?_take, List.getElem?_drop, List.getElem?_drop]
  split
  · rw [List.getElem?_set_ne (by omega)]
  · rfl
theorem lay_at (D : Bs) (L : List (Nat × Bs)) (k off n : Nat) (S : Bs) (hk : L[k]? = some (off, S)) (hn : n = S.length) (hf : ∀ p ∈ L, p.1 + p.2.length ≤ D.length) (h2 : ∀ p ∈ L.drop (k + 1), off + n ≤ p.1 ∨ p.1 + p.2.length ≤ off) : seg (lay D L) off n = S := by
  obtain ⟨hl, e⟩ := List.getElem?_eq_some_iff.1 hk
  have hL : L = L.take k ++ (off, S) :: L.drop (k + 1) := by rw [← e, ← List.drop_eq_getElem_cons hl, List.take_append_drop]
  rw [hL]
  exact lay_seg D _ _ off n S hn (fun p hp => hf p (List.mem_of_mem_take hp)) (hf (off, S) (List.mem_of_getElem? hk)) (fun p hp => ⟨hf p (List.mem_of_mem_drop hp), h2 p hp⟩)
/-- What the reader takes from a volume descriptor. -/
structure VolIs (D vol : Bs) (ext size paths little : Int) (tm : Bs) : Prop where
  len : D.length = 2048
  sig : seg D 0 7 = [1, 67, 68, 48, 48, 49, 1]
  vol : seg D 40 32 = vol ++ List.replicate (32 - vol.length) 32
  bs : seg D 128 4 = b16 2048
  paths : seg D 132 8 = b32 paths
  little : seg D 140 4 = (b32 little).take 4
  root : seg D 156 34 = recL [0] ext size tm true
  t1 : seg D 813 17 = someTime.data.toList
  t2 : seg D 830 17 = someTime.data.toList
  t3 : seg D 847 17 = zeroTime.data.toList
  t4 : seg D 864 17 = zeroTime.data.toList
set_option maxHeartbeats 2000000 in
theorem volD_is (vol : Bs) (ext size blocks paths little big : Int) (tm : Bs) (hv : vol.length ≤ 32) (htm : tm.length = 7) : VolIs (volD vol ext size blocks paths little big tm) vol ext size paths little tm := by
  have hr : (recL [0] ext size tm true).length = 34 := recD_len _ _ _ _ _ htm
  have h32 : ∀ n : Int, (b32 n).length = 8 := fun _ => rfl
  have h16 : ∀ n : Int, (b16 n).length = 4 := fun _ => rfl
  have hvl : (vol ++ List.replicate (32 - vol.length) (32 : UInt8)).length = 32 := by simp; omega
  have hz : zeroTime.data.toList.length = 17 := rfl
  have hs : someTime.data.toList.length = 17 := rfl
  have hc : cd001.data.toList.length = 7 := rfl
  have ht4 : ((b32 little).take 4).length = 4 := rfl
  have hd4 : ((b32 big).drop 4).length = 4 := rfl
  have h6 : (List.replicate 623 (32 : UInt8)).length = 623 := List.length_replicate
  have h3 : (List.replicate 32 (32 : UInt8)).length = 32 := List.length_replicate
  have hD : (List.replicate 2048 (0 : UInt8)).length = 2048 := List.length_replicate
  have e : volD vol ext size blocks paths little big tm = (lay (List.replicate 2048 0) [(0, cd001.data.toList), (8, List.replicate 32 32), (40, vol ++ List.replicate (32 - vol.length) 32), (80, b32 blocks), (120, b16 1), (124, b16 1), (128, b16 2048), (132, b32 paths), (140, (b32 little).take 4), (148, (b32 big).drop 4), (156, recL [0] ext size tm true), (190, List.replicate 623 32), (813, zeroTime.data.toList), (830, zeroTime.data.toList), (847, zeroTime.data.toList), (864, zeroTime.data.toList), (813, someTime.data.toList), (830, someTime.data.toList)]).set 881 1 := rfl
  rw [e]
  generalize List.replicate 2048 (0 : UInt8) = D at hD
  generalize eR : recL [0] ext size tm true = R at hr
  generalize eV : vol ++ List.replicate (32 - vol.length) (32 : UInt8) = V at hvl
  generalize eZ : zeroTime.data.toList = Z at hz
  generalize eT : someTime.data.toList = T at hs
  generalize hcc : cd001.data.toList = C at hc
  generalize eB4 : (b32 little).take 4 = B4 at ht4
  generalize eB5 : (b32 big).drop 4 = B5 at hd4
  generalize eS6 : List.replicate 623 (32 : UInt8) = S6 at h6
  generalize eS3 : List.replicate 32 (32 : UInt8) = S3 at h3
  have q1 := h32 blocks
  have q2 := h32 paths
  have q3 := h16 1
  have q4 := h16 2048
  generalize eA1 : b32 blocks = A1 at q1
  generalize eA2 : b32 paths = A2 at q2
  generalize eA3 : b16 1 = A3 at q3
  generalize eA4 : b16 2048 = A4 at q4
  have hf : ∀ p ∈ [(0, C), (8, S3), (40, V), (80, A1), (120, A3), (124, A3), (128, A4), (132, A2), (140, B4), (148, B5), (156, R), (190, S6), (813, Z), (830, Z), (847, Z), (864, Z), (813, T), (830, T)], p.1 + p.2.length ≤ D.length := by ((repeat (refine List.forall_mem_cons.2 ⟨by (dsimp only; omega), ?_⟩)); exact fun p hp => absurd hp List.not_mem_nil)
  refine ⟨?_, ?_, ?_, ?_, ?_, ?_, ?_, ?_, ?_, ?_, ?_⟩
  · rw [List.length_set, lay_len _ _ hf]; exact hD
  · rw [seg_set _ _ _ _ _ (by omega)]
    refine Eq.trans (lay_at D _ 0 0 7 C rfl (by omega) hf (by simp only [List.drop_succ_cons, List.drop_zero]; ((repeat (refine List.forall_mem_cons.2 ⟨by (dsimp only; omega), ?_⟩)); exact fun p hp => absurd hp List.not_mem_nil))) ?_
    rw [← hcc]; rfl
  · rw [seg_set _ _ _ _ _ (by omega)]
    exact Eq.trans (lay_at D _ 2 40 32 V rfl (by omega) hf (by simp only [List.drop_succ_cons, List.drop_zero]; ((repeat (refine List.forall_mem_cons.2 ⟨by (dsimp only; omega), ?_⟩)); exact fun p hp => absurd hp List.not_mem_nil))) eV.symm
  · rw [seg_set _ _ _ _ _ (by omega)]
    exact Eq.trans (lay_at D _ 6 128 4 A4 rfl (by omega) hf (by simp only [List.drop_succ_cons, List.drop_zero]; ((repeat (refine List.forall_mem_cons.2 ⟨by (dsimp only; omega), ?_⟩)); exact fun p hp => absurd hp List.not_mem_nil))) eA4.symm
  · rw [seg_set _ _ _ _ _ (by omega)]
    exact Eq.trans (lay_at D _ 7 132 8 A2 rfl (by omega) hf (by simp only [List.drop_succ_cons, List.drop_zero]; ((repeat (refine List.forall_mem_cons.2 ⟨by (dsimp only; omega), ?_⟩)); exact fun p hp => absurd hp List.not_mem_nil))) eA2.symm
  · rw [seg_set _ _ _ _ _ (by omega)]
    exact Eq.trans (lay_at D _ 8 140 4 B4 rfl (by omega) hf (by simp only [List.drop_succ_cons, List.drop_zero]; ((repeat (refine List.forall_mem_cons.2 ⟨by (dsimp only; omega), ?_⟩)); exact fun p hp => absurd hp List.not_mem_nil))) eB4.symm
  · rw [seg_set _ _ _ _ _ (by omega)]
    exact Eq.trans (lay_at D _ 10 156 34 R rfl (by omega) hf (by simp only [List.drop_succ_cons, List.drop_zero]; ((repeat (refine List.forall_mem_cons.2 ⟨by (dsimp only; omega), ?_⟩)); exact fun p hp => absurd hp List.not_mem_nil))) eR.symm
  · rw [seg_set _ _ _ _ _ (by omega)]
    exact Eq.trans (lay_at D _ 16 813 17 T rfl (by omega) hf (by simp only [List.drop_succ_cons, List.drop_zero]; ((repeat (refine List.forall_mem_cons.2 ⟨by (dsimp only; omega), ?_⟩)); exact fun p hp => absurd hp List.not_mem_nil))) eT.symm
  · rw [seg_set _ _ _ _ _ (by omega)]
    exact Eq.trans (lay_at D _ 17 830 17 T rfl (by omega) hf (by simp only [List.drop_succ_cons, List.drop_zero]; ((repeat (refine List.forall_mem_cons.2 ⟨by (dsimp only; omega), ?_⟩)); exact fun p hp => absurd hp List.not_mem_nil))) eT.symm
  · rw [seg_set _ _ _ _ _ (by omega)]
    exact Eq.trans (lay_at D _ 14 847 17 Z rfl (by omega) hf (by simp only [List.drop_succ_cons, List.drop_zero]; ((repeat (refine List.forall_mem_cons.2 ⟨by (dsimp only; omega), ?_⟩)); exact fun p hp => absurd hp List.not_mem_nil))) eZ.symm
  · rw [seg_set _ _ _ _ _ (by omega)]
    exact Eq.trans (lay_at D _ 15 864 17 Z rfl (by omega) hf (by simp only [List.drop_succ_cons, List.drop_zero]; ((repeat (refine List.forall_mem_cons.2 ⟨by (dsimp only; omega), ?_⟩)); exact fun p hp => absurd hp List.not_mem_nil))) eZ.symm

end Go.Proofs.YtfppgplboomdbaaGreatDoor
