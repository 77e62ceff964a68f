/- Part of the proofs of laws.FnIsoTree and laws.FnIsoAt: lemmas and contracts of functions that the two laws reach, each under the hypotheses that its own statement names. -/
import Derived.Lib.CleanSame
import Derived.Lib.Strings
namespace Go.Proofs.YtfppgplboomdbaaGreatDoor


open Go.Lib

abbrev joinP (ps : List (List UInt8)) : List UInt8 := ([47] : List UInt8).intercalate ps
structure PlainE (e : List UInt8) : Prop where
  ne : e ≠ []
  no47 : 47 ∉ e
  dot : e ≠ [46]
  dots : e ≠ [46, 46]
theorem joinP_nil : joinP [] = [] := rfl
theorem joinP_one (e : List UInt8) : joinP [e] = e := by simp [joinP, List.intercalate]
theorem joinP_cons (e f : List UInt8) (ps : List (List UInt8)) : joinP (e :: f :: ps) = e ++ 47 :: joinP (f :: ps) := by
  simp [joinP, List.intercalate, List.intersperse]
theorem joinP_snoc (ps : List (List UInt8)) (e : List UInt8) (h : ps ≠ []) : joinP (ps ++ [e]) = joinP ps ++ 47 :: e := Pa.inter_snoc e ps h
theorem els_joinP : ∀ ps : List (List UInt8), ps ≠ [] → (∀ e ∈ ps, 47 ∉ e) → Pa.els (joinP ps) = ps
  | [], h, _ => absurd rfl h
  | [e], _, h => by
    have := Pa.els_elem e [] (h e (by simp)) (.inl rfl)
    rw [List.append_nil] at this
    rw [joinP_one, this]; rfl
  | e :: f :: ps, _, h => by
    rw [joinP_cons, Pa.els_elem e (47 :: joinP (f :: ps)) (h e (by simp)) (.inr rfl)]
    show e :: Pa.els (joinP (f :: ps)) = _
    rw [els_joinP (f :: ps) (by simp) (fun x hx => h x (List.mem_cons_of_mem _ hx))]
theorem els_joinP_slash : ∀ ps : List (List UInt8), ps ≠ [] → (∀ e ∈ ps, 47 ∉ e) → Pa.els (joinP ps ++ [47]) = ps ++ [[]]
  | [], h, _ => absurd rfl h
  | [e], _, h => by
    rw [joinP_one, Pa.els_elem e [47] (h e (by simp)) (.inr rfl)]; rfl
  | e :: f :: ps, _, h => by
    rw [joinP_cons, List.append_assoc, List.cons_append, Pa.els_elem e (47 :: (joinP (f :: ps) ++ [47])) (h e (by simp)) (.inr rfl)]
    show e :: Pa.els (joinP (f :: ps) ++ [47]) = _
    rw [els_joinP_slash (f :: ps) (by simp) (fun x hx => h x (List.mem_cons_of_mem _ hx))]
    simp
theorem step_plain {e : List UInt8} (h : PlainE e) (ro : Bool) (st : List (List UInt8)) : Pa.cleanStep ro st e = e :: st := by
  unfold Pa.cleanStep
  rw [if_neg (by rintro (h1 | h1); exact h.ne h1; exact h.dot h1), if_neg h.dots]
theorem foldl_plain (ro : Bool) : ∀ (ps st : List (List UInt8)), (∀ e ∈ ps, PlainE e) → ps.foldl (Pa.cleanStep ro) st = ps.reverse ++ st
  | [], _, _ => rfl
  | e :: ps, st, h => by
    rw [List.foldl_cons, step_plain (h e (by simp)), foldl_plain ro ps (e :: st) (fun x hx => h x (by simp [hx]))]
    simp
theorem joinP_ne {ps : List (List UInt8)} (h : ps ≠ []) (hp : ∀ e ∈ ps, PlainE e) : joinP ps ≠ [] := by
  match ps, h with
  | [e], _ => rw [joinP_one]; exact (hp e (by simp)).ne
  | e :: f :: ps, _ => rw [joinP_cons]; simp
theorem joinP_head {ps : List (List UInt8)} (h : ps ≠ []) (hp : ∀ e ∈ ps, PlainE e) (t : List UInt8) : ((joinP ps ++ t).head? == some 47) = false := by
  match ps, h with
  | e :: qs, _ =>
    have he := hp e (by simp)
    have h2 : ∃ c l, e = c :: l ∧ c ≠ 47 := by
      cases hE : e with
      | nil => exact absurd hE he.ne
      | cons c l => exact ⟨c, l, rfl, fun h47 => he.no47 (by rw [hE, h47]; simp)⟩
    obtain ⟨c, l, rfl, hc⟩ := h2
    cases qs with
    | nil => rw [joinP_one]; simpa using hc
    | cons f qs => rw [joinP_cons]; simpa using hc
theorem cleanEls_joinP {ps : List (List UInt8)} (h : ps ≠ []) (hp : ∀ e ∈ ps, PlainE e) : Pa.cleanEls (joinP ps) = joinP ps := by
  have hh := joinP_head h hp []
  rw [List.append_nil] at hh
  rw [Pa.cleanEls_rel _ (joinP_ne h hp) hh, els_joinP ps h (fun e he => (hp e he).no47), foldl_plain _ _ _ hp, List.append_nil, List.reverse_reverse, if_neg (joinP_ne h hp)]
theorem cleanEls_joinP_slash {ps : List (List UInt8)} (h : ps ≠ []) (hp : ∀ e ∈ ps, PlainE e) : Pa.cleanEls (joinP ps ++ [47]) = joinP ps := by
  rw [Pa.cleanEls_rel _ (by simp) (joinP_head h hp _), els_joinP_slash ps h (fun e he => (hp e he).no47), List.foldl_append, foldl_plain _ _ _ hp]
  rw [List.foldl_cons, Pa.step_nil, List.foldl_nil, List.append_nil, List.reverse_reverse, if_neg (joinP_ne h hp)]
theorem clean_joinP {ps : List (List UInt8)} (h : ps ≠ []) (hp : ∀ e ∈ ps, PlainE e) : Pa.clean (joinP ps) = joinP ps := by rw [Pa.clean_eq_cleanEls, cleanEls_joinP h hp]
theorem join_plain {ps : List (List UInt8)} (h : ps ≠ []) (hp : ∀ e ∈ ps, PlainE e) : Pa.join ps = joinP ps := by
  have hf : ps.filter (· ≠ []) = ps := List.filter_eq_self.2 (fun e he => by simpa using (hp e he).ne)
  unfold Pa.join
  rw [hf, if_neg h, clean_joinP h hp]
theorem lastIndex_none {e : List UInt8} (h : 47 ∉ e) : Pa.lastIndexByte e 47 = -1 := Pa.lastIdx_none _ _ _ (fun _j _ hj => h (List.mem_of_getElem? hj))
theorem lastIndex_snoc (a : List UInt8) {e : List UInt8} (h : 47 ∉ e) : Pa.lastIndexByte (a ++ 47 :: e) 47 = a.length := by
  refine Pa.lastIdx_eq_of _ _ a.length _ (by simp) (by simp) (fun j h1 h2 h3 => ?_)
  rw [List.getElem?_append_right (by omega)] at h3
  obtain ⟨d, hd⟩ : ∃ d, j - a.length = d + 1 := ⟨j - a.length - 1, by omega⟩
  rw [hd, List.getElem?_cons_succ] at h3
  exact h (List.mem_of_getElem? h3)
theorem split_one {e : List UInt8} (h : 47 ∉ e) : Pa.split e = ([], e) := by simp [Pa.split, lastIndex_none h]
theorem split_snoc (a : List UInt8) {e : List UInt8} (h : 47 ∉ e) : Pa.split (a ++ 47 :: e) = (a ++ [47], e) := by
  unfold Pa.split
  rw [lastIndex_snoc a h]
  have e1 : ((a.length : Int) + 1).toNat = a.length + 1 := by omega
  rw [e1]
  have e2 : a ++ 47 :: e = (a ++ [47]) ++ e := by simp
  rw [e2, List.take_left' (by simp), List.drop_left' (by simp)]
theorem trim_snoc (a : List UInt8) {e : List UInt8} (h0 : e ≠ []) (h : 47 ∉ e) : Pa.trimSlashes (a ++ e) = a ++ e := by
  unfold Pa.trimSlashes
  rw [List.reverse_append]
  cases hr : e.reverse with
  | nil => exact absurd (by simpa using hr) h0
  | cons c l =>
    have hc : c ≠ 47 := fun hc => h (by rw [← List.mem_reverse, hr, hc]; simp)
    rw [List.cons_append, List.dropWhile_cons_of_neg (by simpa using hc), ← List.cons_append, ← hr, ← List.reverse_append, List.reverse_reverse]
theorem base_one {e : List UInt8} (h : PlainE e) : Pa.base e = e := by
  unfold Pa.base
  have ht := trim_snoc [] h.ne h.no47
  rw [List.nil_append] at ht
  rw [if_neg h.ne, ht, split_one h.no47]
  exact if_neg h.ne
theorem base_snoc (a : List UInt8) {e : List UInt8} (h : PlainE e) : Pa.base (a ++ 47 :: e) = e := by
  unfold Pa.base
  have ht := trim_snoc (a ++ [47]) h.ne h.no47
  rw [List.append_assoc, List.singleton_append] at ht
  rw [if_neg (by simp), ht, split_snoc a h.no47]
  exact if_neg h.ne
/-- A path's directory and last part. -/
theorem dir_joinP (ps : List (List UInt8)) {e : List UInt8} (hp : ∀ x ∈ ps, PlainE x) (he : PlainE e) : Pa.cleanEls (Pa.split (joinP (ps ++ [e]))).1 = (if ps = [] then [46] else joinP ps) ∧ Pa.base (joinP (ps ++ [e])) = e := by
  by_cases h : ps = []
  · subst h
    rw [List.nil_append, joinP_one, split_one he.no47, if_pos rfl, base_one he]
    exact ⟨rfl, rfl⟩
  · rw [joinP_snoc ps e h, split_snoc _ he.no47, if_neg h, base_snoc _ he]
    exact ⟨cleanEls_joinP_slash h hp, rfl⟩

end Go.Proofs.YtfppgplboomdbaaGreatDoor

namespace Go.Proofs.YtfppgplboomdbaaGreatDoor


def okC (c : UInt8) : Prop := (65 ≤ c.toNat ∧ c.toNat ≤ 90) ∨ (48 ≤ c.toNat ∧ c.toNat ≤ 57) ∨ c.toNat = 95
/-- A plain name. -/
structure PName (l : List UInt8) (dir : Bool) : Prop where
  pos : 1 ≤ l.length
  le : l.length ≤ 12
  ch : ∀ c ∈ l, okC c ∨ (c = 46 ∧ dir = false)
  first : l[0]? ≠ some 46
  last : l[l.length - 1]? ≠ some 46
/-- What plainName knows behind i bytes. -/
structure PnI (l : List UInt8) (dir : Bool) (i : Nat) (p : Int) : Prop where
  le : i ≤ l.length
  pt : p = -1 ∨ ∃ k : Nat, p = k ∧ 0 < k ∧ k < i ∧ l[k]? = some 46 ∧ dir = false
  ok : ∀ (j : Nat) c, j < i → l[j]? = some c → (j : Int) = p ∨ okC c
theorem PnI.start (l : List UInt8) (dir : Bool) : PnI l dir 0 (-1) := ⟨Nat.zero_le _, .inl rfl, fun j c h _ => by omega⟩
theorem PnI.dot {l : List UInt8} {dir : Bool} {i : Nat} {p : Int} (h : PnI l dir i p) (hc : l[i]? = some 46) (hp : p < 0) (hi : 0 < i) (hd : dir = false) : PnI l dir (i + 1) i := by
  have hl : i < l.length := (List.getElem?_eq_some_iff.1 hc).1
  refine ⟨by omega, .inr ⟨i, rfl, hi, by omega, hc, hd⟩, fun j c hj hjc => ?_⟩
  by_cases e : j = i
  · exact .inl (by rw [e])
  · rcases h.ok j c (by omega) hjc with h1 | h1
    · omega
    · exact .inr h1
theorem PnI.chr {l : List UInt8} {dir : Bool} {i : Nat} {p : Int} {c : UInt8} (h : PnI l dir i p) (hc : l[i]? = some c) (ho : okC c) : PnI l dir (i + 1) p := by
  have hl : i < l.length := (List.getElem?_eq_some_iff.1 hc).1
  refine ⟨by omega, ?_, fun j c' hj hjc => ?_⟩
  · rcases h.pt with h1 | ⟨k, h1, h2, h3, h4⟩
    · exact .inl h1
    · exact .inr ⟨k, h1, h2, by omega, h4⟩
  · by_cases e : j = i
    · subst e; rw [hc] at hjc; cases hjc; exact .inr ho
    · exact h.ok j c' (by omega) hjc
theorem okC.not46 {c : UInt8} (h : okC c) : c ≠ 46 := by
  rintro rfl
  have : (46 : UInt8).toNat = 46 := rfl
  unfold okC at h; omega
theorem okC.not47 {c : UInt8} (h : okC c) : c ≠ 47 := by
  rintro rfl
  have : (47 : UInt8).toNat = 47 := rfl
  unfold okC at h; omega
theorem PnI.fin {l : List UInt8} {dir : Bool} {p : Int} (h : PnI l dir l.length p) (h1 : p < 0 → 1 ≤ l.length ∧ l.length ≤ 8) (h2 : 0 ≤ p → p ≤ 8 ∧ 1 ≤ (l.length : Int) - p - 1 ∧ (l.length : Int) - p - 1 ≤ 3) : PName l dir := by
  have hno : ∀ (j : Nat), (j : Int) ≠ p → l[j]? ≠ some 46 := fun j hj he => by
    have hjl : j < l.length := (List.getElem?_eq_some_iff.1 he).1
    rcases h.ok j 46 hjl he with h3 | h3
    · exact hj h3
    · exact h3.not46 rfl
  rcases h.pt with rfl | ⟨k, rfl, k1, k2, k3, k4⟩
  · have := h1 (by omega)
    refine ⟨by omega, by omega, fun c hc => ?_, hno 0 (by omega), hno _ (by omega)⟩
    obtain ⟨j, hj, e⟩ := List.getElem_of_mem hc
    rcases h.ok j c hj (by rw [List.getElem?_eq_getElem hj, e]) with h3 | h3
    · omega
    · exact .inl h3
  · have := h2 (by omega)
    refine ⟨by omega, by omega, fun c hc => ?_, hno 0 (by omega), hno _ (by omega)⟩
    obtain ⟨j, hj, e⟩ := List.getElem_of_mem hc
    have hjc : l[j]? = some c := by rw [List.getElem?_eq_getElem hj, e]
    rcases h.ok j c hj hjc with h3 | h3
    · have e2 : j = k := by omega
      rw [e2, k3] at hjc; cases hjc; exact .inr ⟨rfl, k4⟩
    · exact .inl h3
theorem PName.plain {l : List UInt8} {d : Bool} (h : PName l d) : PlainE l := by
  refine ⟨fun e => ?_, fun hm => ?_, fun e => h.first (by rw [e]; rfl), fun e => h.first (by rw [e]; rfl)⟩
  · have := h.pos; rw [e] at this; simp at this
  · rcases h.ch 47 hm with h1 | ⟨h1, _⟩
    · exact h1.not47 rfl
    · exact absurd h1 (by decide)
theorem PName.ascii {l : List UInt8} {d : Bool} (h : PName l d) : ∀ c ∈ l, c.toNat < 128 ∧ c ≠ 92 ∧ c ≠ 59 ∧ c ≠ 0 ∧ c ≠ 1 := fun c hc => by
  rcases h.ch c hc with h1 | ⟨rfl, _⟩
  · unfold okC at h1
    refine ⟨by omega, ?_, ?_, ?_, ?_⟩ <;> (rintro rfl; revert h1; decide)
  · decide

end Go.Proofs.YtfppgplboomdbaaGreatDoor

namespace Go.Proofs.YtfppgplboomdbaaGreatDoor


/-- What Name() makes of a file's identifier. -/
def strip1 (l : List UInt8) : List UInt8 := Go.Lib.trimPrefix (Go.Lib.trimSuffix (Go.Lib.trimSuffix l [59, 49]) [46]) [46]
theorem strip1_plain {e : List UInt8} {d : Bool} (h : PName e d) : strip1 (e ++ [59, 49]) = e := by
  have h1 : Go.Lib.trimSuffix (e ++ [59, 49]) [59, 49] = e := by
    unfold Go.Lib.trimSuffix
    rw [if_pos (by simp [Go.Lib.hasSuffix, List.isSuffixOf])]
    simp
  have h2 : Go.Lib.trimSuffix e [46] = e := by
    unfold Go.Lib.trimSuffix
    rw [if_neg]
    intro hs
    simp [Go.Lib.hasSuffix] at hs
    obtain ⟨t, rfl⟩ := hs
    exact h.last (by simp)
  have h3 : Go.Lib.trimPrefix e [46] = e := by
    unfold Go.Lib.trimPrefix
    rw [if_neg]
    intro hs
    simp [Go.Lib.hasPrefix] at hs
    obtain ⟨t, rfl⟩ := hs
    exact h.first (by simp)
  unfold strip1
  rw [h1, h2, h3]
/-- No name of a file is a directory's identifier. -/
theorem id_ne {a e : List UInt8} {d : Bool} (h : PName a d) : a ≠ e ++ [59, 49] := by
  rintro rfl
  have := (h.ascii 59 (by simp)).2.2.1
  exact absurd rfl this

end Go.Proofs.YtfppgplboomdbaaGreatDoor
