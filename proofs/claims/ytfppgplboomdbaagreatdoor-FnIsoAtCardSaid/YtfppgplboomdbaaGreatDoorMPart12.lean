/- Part of the proofs of laws.FnIsoTree and laws.FnIsoAt: lemmas and contracts of functions that the two laws reach, each under the hypotheses that its own statement names. -/
import Derived.Test.YtfppgplboomdbaaGreatDoorMPart09
import Derived.Test.YtfppgplboomdbaaGreatDoorMPart08
import Derived.Test.YtfppgplboomdbaaGreatDoorMPart07
import Derived.Test.YtfppgplboomdbaaGreatDoorMPart11
import Derived.Deep.Cut
namespace Go.Proofs.YtfppgplboomdbaaGreatDoor
open Go.RowKit

/-- What the path table answers: the entries from place i on; the level that is asked for; how many parts are left; the first part. -/
def glF : List PEnt → Nat → Int → Nat → Bs → Int
  | [], _, _, _, _ => 0
  | e :: es, i, lv, m, cur => if e.par = lv ∧ e.id = cur then (if 1 < m then glF es (i + 1) ((i : Int) % 65536) (m - 1) cur else e.loc) else glF es (i + 1) lv m cur
theorem glF_none (cur : Bs) : ∀ (es : List PEnt) (i : Nat) (lv : Int) (m : Nat), (∀ e ∈ es, e.id ≠ cur) → glF es i lv m cur = 0
  | [], _, _, _, _ => rfl
  | e :: es, i, lv, m, h => by
    unfold glF
    rw [if_neg (fun h2 => h e (by simp) h2.2)]
    exact glF_none cur es _ _ _ (fun x hx => h x (by simp [hx]))
def Once (cur : Bs) (es : List PEnt) : Prop := es.Pairwise fun a b => ¬ (a.id = cur ∧ b.id = cur)
theorem glF_multi (cur : Bs) : ∀ (es : List PEnt) (i : Nat) (lv : Int) (m : Nat), Once cur es → 2 ≤ m → glF es i lv m cur = 0
  | [], _, _, _, _, _ => rfl
  | e :: es, i, lv, m, h, hm => by
    have h2 := List.pairwise_cons.1 h
    unfold glF
    split
    · rename_i hc
      rw [if_pos (by omega)]
      exact glF_none cur es _ _ _ (fun x hx h3 => h2.1 x hx ⟨hc.2, h3⟩)
    · exact glF_multi cur es _ _ _ h2.2 hm
theorem glF_one (cur : Bs) : ∀ (es : List PEnt) (i : Nat) (lv : Int) (k : Nat) (e : PEnt), Once cur es → es[k]? = some e → e.par = lv → e.id = cur → glF es i lv 1 cur = e.loc
  | [], _, _, _, _, _, h, _, _ => by simp at h
  | a :: es, i, lv, k, e, h, hk, h3, h4 => by
    have h2 := List.pairwise_cons.1 h
    unfold glF
    cases k with
    | zero =>
      simp at hk; subst hk
      rw [if_pos ⟨h3, h4⟩, if_neg (by omega)]
    | succ k =>
      rw [List.getElem?_cons_succ] at hk
      have hm := List.mem_of_getElem? hk
      rw [if_neg (fun h5 => h2.1 e hm ⟨h5.2, h4⟩)]
      exact glF_one cur es _ _ k e h2.2 hk h3 h4
/-- The path table's entries. -/
def esOf (nd : Nat → Nd) (ds : List Nat) : List PEnt := ds.map fun d => ⟨idP nd d, (nd d).ext, (nd (nd d).parent).number⟩
theorem PName.ne0 {a : Bs} {d : Bool} (h : PName a d) : a ≠ [0] ∧ a ≠ [1] := by
  constructor
  · rintro rfl; exact (h.ascii 0 (by simp)).2.2.2.1 rfl
  · rintro rfl; exact (h.ascii 1 (by simp)).2.2.2.2 rfl
theorem esOf_once {nd : Nat → Nd} {n : Nat} {ds : List Nat} (g : GoodN nd n) (hd : DirsOK nd n ds (fun i => (nd i).number)) (hap : ∀ x y, 1 ≤ x → x < n → 1 ≤ y → y < n → (nd x).f.dir = true → (nd y).f.dir = true → nmN nd x = nmN nd y → x = y) {cur : Bs} {d : Bool} (hc : PName cur d) : Once cur (esOf nd ds) := by
  unfold Once esOf
  rw [List.pairwise_map]
  refine List.Pairwise.imp_of_mem (R := fun a b => a ≠ b) (fun {a b} ha hb hab h => hab ?_) hd.nodup
  obtain ⟨h1, h2⟩ := h
  simp only [idP] at h1 h2
  have a2 := (hd.mem a).1 ha
  have b2 := (hd.mem b).1 hb
  by_cases a0 : a = 0
  · rw [if_pos a0] at h1; exact absurd h1.symm hc.ne0.1
  · by_cases b0 : b = 0
    · rw [if_pos b0] at h2; exact absurd h2.symm hc.ne0.1
    · rw [if_neg a0] at h1
      rw [if_neg b0] at h2
      have ia := g.id a (by omega) a2.1
      have ib := g.id b (by omega) b2.1
      rw [if_pos a2.2] at ia
      rw [if_pos b2.2] at ib
      unfold nid at ia ib
      exact hap a b (by omega) a2.1 (by omega) b2.1 a2.2 b2.2 (by rw [← ia, ← ib, h1, h2])
theorem esOf_head {nd : Nat → Nd} {n : Nat} {ds : List Nat} (hd : DirsOK nd n ds (fun i => (nd i).number)) : ∃ e, (esOf nd ds)[0]? = some e ∧ e.loc = (nd 0).ext := by
  refine ⟨⟨idP nd 0, (nd 0).ext, (nd (nd 0).parent).number⟩, ?_, rfl⟩
  unfold esOf
  rw [List.getElem?_map, hd.head]; rfl
/-- A directory below the root is found. -/
theorem gl_top {nd : Nat → Nd} {n : Nat} {ds : List Nat} (g : GoodN nd n) (hd : DirsOK nd n ds (fun i => (nd i).number)) (hap : ∀ x y, 1 ≤ x → x < n → 1 ≤ y → y < n → (nd x).f.dir = true → (nd y).f.dir = true → nmN nd x = nmN nd y → x = y) {x : Nat} (h1 : 1 ≤ x) (h2 : x < n) (hx : (nd x).f.dir = true) (hp : (nd x).parent = 0) :
    glF (esOf nd ds) 0 1 1 (nmN nd x) = (nd x).ext := by
  obtain ⟨j, hj⟩ := List.getElem?_of_mem ((hd.mem x).2 ⟨h2, hx⟩)
  have h0 := hd.num 0 0 hd.head
  simp at h0
  have hid := g.id x h1 h2
  rw [if_pos hx] at hid
  refine glF_one _ _ 0 1 j ⟨idP nd x, (nd x).ext, (nd (nd x).parent).number⟩ (esOf_once g hd hap (g.name x h1 h2)) ?_ ?_ ?_
  · unfold esOf; rw [List.getElem?_map, hj]; rfl
  · show (nd (nd x).parent).number = 1
    rw [hp]; exact h0
  · show idP nd x = _
    unfold idP
    rw [if_neg (by omega)]
    exact hid
theorem RecsIs.get {nd : Nat → Nd} : ∀ {ks : List Nat} {rs : List RecE}, RecsIs nd ks rs → rs.length = ks.length ∧ ∀ (j k : Nat) (r : RecE), ks[j]? = some k → rs[j]? = some r → RecIs nd (nid nd k) k (nd k).f.dir r
  | [], [], _ => ⟨rfl, fun j k r h => by simp at h⟩
  | a :: ks, b :: rs, h => by
    have h2 := RecsIs.get h.2
    refine ⟨by simp [h2.1], fun j k r h3 h4 => ?_⟩
    cases j with
    | zero => simp at h3 h4; subst h3; subst h4; exact h.1
    | succ j => rw [List.getElem?_cons_succ] at h3 h4; exact h2.2 j k r h3 h4
  | [], _ :: _, h => h.elim
  | _ :: _, [], h => h.elim
/-- The records of directory i. -/
def DirR (nd : Nat → Nd) (ks : List Nat) (i : Nat) (rsA : List RecE) : Prop := ∃ r0 r1 rs, rsA = r0 :: r1 :: rs ∧ RecIs nd [0] i true r0 ∧ RecIs nd [1] (nd i).parent true r1 ∧ RecsIs nd ks rs
theorem nid_ne {nd : Nat → Nd} {n : Nat} (g : GoodN nd n) {x : Nat} (h1 : 1 ≤ x) (h2 : x < n) : nid nd x ≠ [0] ∧ nid nd x ≠ [1] ∧ nid nd x ≠ [] := by
  have hn := g.name x h1 h2
  rw [g.id x h1 h2]
  split
  · exact ⟨hn.ne0.1, hn.ne0.2, hn.plain.ne⟩
  · refine ⟨fun h => ?_, fun h => ?_, by simp⟩ <;>
    · have := congrArg List.length h
      simp at this
/-- An entry with a directory's name is that directory's. -/
theorem DirR.find {nd : Nat → Nd} {ks : Nat → List Nat} {n i k : Nat} {rsA : List RecE} (h : DirR nd (ks i) i rsA) (t : Tree nd ks n) (g : GoodN nd n) (hi : i < n) (hk : k ∈ ks i) (hd : (nd k).f.dir = true) :
    (∀ (m : Nat) (r : RecE), rsA[m]? = some r → (nameB r).data.toList = nmN nd k → RecIs nd (nid nd k) k true r) ∧ ∃ (m : Nat) (r : RecE), rsA[m]? = some r ∧ (nameB r).data.toList = nmN nd k := by
  obtain ⟨r0, r1, rs, rfl, h0, h1, h2⟩ := h
  have hk2 := (t.mem i hi k).1 hk
  have hn := g.name k hk2.1 hk2.2.1
  have hid := g.id k hk2.1 hk2.2.1
  rw [if_pos hd] at hid
  have hg := h2.get
  refine ⟨fun m r hm he => ?_, ?_⟩
  · match m with
    | 0 =>
      simp at hm; subst hm
      unfold nameB at he
      rw [if_pos (.inl h0.id)] at he
      exact absurd he.symm hn.plain.ne
    | 1 =>
      simp at hm; subst hm
      unfold nameB at he
      rw [if_pos (.inr h1.id)] at he
      exact absurd he.symm hn.plain.ne
    | m + 2 =>
      rw [List.getElem?_cons_succ, List.getElem?_cons_succ] at hm
      have hml : m < rs.length := (List.getElem?_eq_some_iff.1 hm).1
      have hmk : (ks i)[m]? = some ((ks i)[m]'(by omega)) := List.getElem?_eq_getElem (by omega)
      generalize hk' : (ks i)[m]'(by omega) = k' at hmk
      have hk3 := (t.mem i hi k').1 (List.mem_of_getElem? hmk)
      have hr := hg.2 m k' r hmk hm
      have hne := nid_ne g hk3.1 hk3.2.1
      unfold nameB at he
      rw [hr.id, if_neg (by rintro (e | e); exact hne.1 e; exact hne.2.1 e)] at he
      have he : nid nd k' = nmN nd k := he
      have hid' := g.id k' hk3.1 hk3.2.1
      by_cases hd' : (nd k').f.dir = true
      · rw [if_pos hd'] at hid'
        have : k' = k := kid_inj t g hi (List.mem_of_getElem? hmk) hk (by rw [← hid', he])
        subst this
        rw [hd'] at hr
        exact hr
      · rw [if_neg hd'] at hid'
        rw [hid'] at he
        exact absurd he.symm (id_ne hn)
  · obtain ⟨m, hm⟩ := List.getElem?_of_mem hk
    have hml : m < rs.length := by rw [hg.1]; exact (List.getElem?_eq_some_iff.1 hm).1
    refine ⟨m + 2, rs[m], by rw [List.getElem?_cons_succ, List.getElem?_cons_succ]; exact List.getElem?_eq_getElem hml, ?_⟩
    have hr := hg.2 m k _ hm (List.getElem?_eq_getElem hml)
    have hne := nid_ne g hk2.1 hk2.2.1
    unfold nameB
    rw [hr.id, if_neg (by rintro (e | e); exact hne.1 e; exact hne.2.1 e)]
    exact hid
/-- What Name() tells of a record. -/
def nameOfR (r : RecE) : Bs := if r.dir then (nameB r).data.toList else strip1 (nameB r).data.toList
/-- The records of a directory's kids. -/
theorem DirR.kids {nd : Nat → Nd} {ks : Nat → List Nat} {n i : Nat} {rsA : List RecE} (h : DirR nd (ks i) i rsA) (t : Tree nd ks n) (g : GoodN nd n) (hi : i < n) :
    ∃ r0 r1 rs, rsA = r0 :: r1 :: rs ∧ selfB r0 = true ∧ parB r1 = true ∧ r0.size = (nd i).size ∧ rs.length = (ks i).length ∧ ∀ (j k : Nat) (r : RecE), (ks i)[j]? = some k → rs[j]? = some r → selfB r = false ∧ parB r = false ∧ nameOfR r = nmN nd k ∧ RecIs nd (nid nd k) k (nd k).f.dir r := by
  obtain ⟨r0, r1, rs, e, h0, h1, h2⟩ := h
  have hg := h2.get
  refine ⟨r0, r1, rs, e, by simp [selfB, h0.id], by simp [parB, h1.id], h0.size, hg.1, fun j k r hk hr => ?_⟩
  have hk2 := (t.mem i hi k).1 (List.mem_of_getElem? hk)
  have hri := hg.2 j k r hk hr
  have hne := nid_ne g hk2.1 hk2.2.1
  have hn := g.name k hk2.1 hk2.2.1
  have hid := g.id k hk2.1 hk2.2.1
  refine ⟨by simp [selfB, hri.id, hne.1], by simp [parB, hri.id, hne.2.1], ?_, hri⟩
  have hb : (nameB r).data.toList = nid nd k := by
    unfold nameB
    rw [hri.id, if_neg (by rintro (e | e); exact hne.1 e; exact hne.2.1 e)]
  unfold nameOfR
  rw [hri.dir, hb]
  by_cases hd : (nd k).f.dir = true
  · rw [if_pos hd] at hid ⊢
    exact hid
  · rw [if_neg hd] at hid ⊢
    rw [hid]
    exact strip1_plain hn

end Go.Proofs.YtfppgplboomdbaaGreatDoor

namespace Go.Proofs.YtfppgplboomdbaaGreatDoor
open Go.RowKit

/-- The path table in memory. -/
structure TabAt (w : World) (B pt : Nat) (es : List PEnt) : Prop where
  lt : pt < B
  ex : ∃ (tb cap : Nat) (ps : List Nat), w.cell? ⟨pt, 0, none⟩ = some (.slice (some ⟨tb, 0, none⟩) es.length cap) ∧ tb < B ∧ ps.length = es.length ∧ (∀ (j p : Nat), ps[j]? = some p → p < B ∧ w.cell? ⟨tb, j, none⟩ = some (ptrV p)) ∧ ∀ (j p : Nat) (e : PEnt), ps[j]? = some p → es[j]? = some e → PeMem w p e
theorem TabAt.keep {w w' : World} {B pt : Nat} {es : List PEnt} (h : TabAt w B pt es) (hb : Below B w w') : TabAt w' B pt es := by
  obtain ⟨tb, cap, ps, h1, h2, h3, h4, h5⟩ := h.ex
  refine ⟨h.lt, tb, cap, ps, ?_, h2, h3, fun j p hp => ⟨(h4 j p hp).1, ?_⟩, fun j p e hp he => ?_⟩
  · rw [hb.cell (p := ⟨pt, 0, none⟩) h.lt]; exact h1
  · rw [hb.cell (p := ⟨tb, j, none⟩) h2]; exact (h4 j p hp).2
  · obtain ⟨sz, a⟩ := h5 j p e hp he
    exact ⟨sz, (hb.block _ (h4 j p hp).1).trans a⟩
/-- One entry, its cells. -/
theorem TabAt.get {w : World} {B pt : Nat} {es : List PEnt} (h : TabAt w B pt es) : ∃ (tb cap : Nat), w.cell? ⟨pt, 0, none⟩ = some (.slice (some ⟨tb, 0, none⟩) es.length cap) ∧ ∀ (k : Nat) (e : PEnt), es[k]? = some e → ∃ p, w.cell? ⟨tb, k, none⟩ = some (.pointer (some ⟨p, 0, none⟩)) ∧ w.cell? ⟨p, 3, none⟩ = some (.int .u32 e.loc) ∧ w.cell? ⟨p, 4, none⟩ = some (.int .u16 e.par) ∧ w.cell? ⟨p, 5, none⟩ = some (.string ⟨e.id.toArray⟩) := by
  obtain ⟨tb, cap, ps, h1, h2, h3, h4, h5⟩ := h.ex
  refine ⟨tb, cap, h1, fun k e he => ?_⟩
  have hk : k < ps.length := by rw [h3]; exact (List.getElem?_eq_some_iff.1 he).1
  have hp := List.getElem?_eq_getElem hk
  generalize ps[k] = p at hp
  obtain ⟨sz, a⟩ := h5 k p e hp he
  exact ⟨p, (h4 k p hp).2, by rw [cell_of_row _ _ _ _ _ _ a]; rfl, by rw [cell_of_row _ _ _ _ _ _ a]; rfl, by rw [cell_of_row _ _ _ _ _ _ a]; rfl⟩
/-- What the table answers for a path of these parts. -/
def glR (es : List PEnt) (ps : List Bs) : Int := match ps with
  | [] => 0
  | a :: _ => if a = [46] then (match es[0]? with | some e => e.loc | none => 0) else glF es 0 1 ps.length a
theorem str_eq {x y : Bs} {X Y : ByteArray} (hx : (⟨x.toArray⟩ : ByteArray) = X) (hy : (⟨y.toArray⟩ : ByteArray) = Y) {b : Bool} (h : decide (x = y) = b) : (X.toList == Y.toList) = b := by
  subst hx hy
  rw [← h]
  simp only [ByteArray.toList_eq]
  by_cases e : x = y <;> simp [e]

set_option maxHeartbeats 4000000 in
set_option maxRecDepth 100000 in
theorem ptLoc_any (pt : Nat) (B : Nat) (es : List PEnt) (s : ByteArray) (ps : List Bs) (w : World) (hB : B ≤ w.heap.size) (ht : TabAt w B pt es) (hes : 0 < es.length) (hfew : es.length ≤ 1000) (hs : s.size ≤ 1000000) (h0 : 0 < s.size) (hn : 92 ∉ s.data.toList) (hp : Lib.Pa.els s.data.toList = ps) (hne : ∀ e ∈ ps, e ≠ []) :
    Calls Tryz.prog 120 #[.pointer (some ⟨pt, 0, none⟩), .string s] w fun e w' => e = .returned (.int .u32 (glR es ps)) ∧ Below w.heap.size w w' := by
  have hpl : ps.length ≤ s.size + 1 := by have := els_len s.data.toList; rw [hp] at this; exact this
  obtain ⟨a, rest, hps⟩ : ∃ a rest, ps = a :: rest := by
    cases ps with
    | nil => exact absurd hp (els_neD _)
    | cons a r => exact ⟨a, r, rfl⟩
  have HT := Lib.hid ht
  have HN := Lib.hid hn
  have HP := Lib.hid hp
  have HNE := Lib.hid hne
  have HPS := Lib.hid hps
  clear hn hp hne ht hps
  go_enter Tryz.func120, Tryz.ntmps120
  go_upto_region 4 with (first
    | (go_at_call 137
       refine (splitPath_any s ps w hs h0 HN.out HP.out HNE.out).mono ?_
       rintro e w3 ⟨⟨v, rfl, hv⟩, hb3⟩
       have HV := Lib.hid hv
       have HB3 := Lib.hid hb3
       clear hv hb3))
  obtain ⟨g, cap, rfl, hgl, hc0⟩ : ∃ g cap, v = .slice (some ⟨g, 0, none⟩) ps.length cap ∧ ps.length ≤ cap ∧ w3.cell? ⟨g, 0, none⟩ = some (.string ⟨a.toArray⟩) := by
    obtain ⟨_, ⟨_, h0'⟩ | ⟨g, cap, e, _, h3, hnc, _, h4, _⟩⟩ := HV.out
    · rw [HPS.out] at h0'; cases h0'
    · exact ⟨g, cap, e, hnc, h4 0 _ (by rw [HPS.out]; rfl)⟩
  have ht3 : TabAt w3 B pt es := HT.out.keep (HB3.out.mono hB)
  obtain ⟨tb, tcap, hbox, hget⟩ := ht3.get
  have HGET := Lib.hid hget
  obtain ⟨p0, hd0, hd1, _, _⟩ := hget 0 es[0] (List.getElem?_eq_getElem hes)
  obtain ⟨m, hm⟩ : ∃ m, ps.length = m := ⟨_, rfl⟩
  have hm1 : 1 ≤ m := by rw [← hm, HPS.out]; simp
  have hmz : ((m : Int) == 0) = false := by simp; omega
  rw [hm] at hgl hpl
  have HM := Lib.hid hm
  have HC := Lib.hid hgl
  obtain ⟨A, hA⟩ : ∃ A : ByteArray, (⟨a.toArray⟩ : ByteArray) = A := ⟨_, rfl⟩
  rw [hA] at hc0
  have HA := Lib.hid hA
  have hdd := str_eq (y := [46]) (Y := ⟨#[46]⟩) hA rfl (b := decide (a = [46])) rfl
  rw [hm]
  clear hget ht3 hm hA
  by_cases hdot : a = [46]
  · have hda : (A.toList == [46]) = true := by rw [decide_eq_true hdot] at hdd; simpa using hdd
    clear hdd
    go_wp2
    go_ret
    refine ⟨?_, HB3.out⟩
    have e1 : glR es ps = es[0].loc := by
      rw [HPS.out]
      show (if a = [46] then _ else _) = _
      rw [if_pos hdot, List.getElem?_eq_getElem hes]
    rw [e1]; rfl
  · have hda : (A.toList == [46]) = false := by rw [decide_eq_false hdot] at hdd; simpa using hdd
    clear hdd
    have HD := Lib.hid hd0
    clear hd0 hd1
    have hgR : glR es ps = glF (es.drop 0) 0 1 m a := by
      rw [HPS.out]
      show (if a = [46] then _ else _) = _
      rw [if_neg hdot, ← HPS.out, HM.out]; rfl
    have HG := Lib.hid hgR
    clear hgR
    go_wp2
    go_loopw [5, 6, 7, 39] (fun pv lv zv iv wr => ∃ (k : Nat) (o n c : Nat) (l : Int), zv = .int .u32 0 ∧ iv = .int .i64 k ∧ k ≤ es.length ∧ pv = .slice (some ⟨g, o, none⟩) n c ∧ 1 ≤ n ∧ n ≤ c ∧ n ≤ 1000001 ∧ lv = .int .u16 l ∧ glR es ps = glF (es.drop k) k l n a ∧ wr = w3) (fun _ _ _ iv _ => es.length - (intOf iv).toNat)
    case atStart => exact ⟨0, 0, m, cap, 1, rfl, rfl, Nat.zero_le _, rfl, hm1, HC.out, by omega, rfl, HG.out, rfl⟩
    case round =>
      obtain ⟨k, o, n, c, l, rfl, rfl, hk, rfl, hn1, hnc, hnb, rfl, hgl2, rfl⟩ := hrel
      have HG2 := Lib.hid hgl2
      have HNC := Lib.hid hnc
      clear hgl2
      by_cases hkl : k < es.length
      · obtain ⟨e, he⟩ : ∃ e, es[k]? = some e := ⟨es[k], List.getElem?_eq_getElem hkl⟩
        obtain ⟨p, d1, d2, d3, d4⟩ := HGET.out k e he
        have hdr : es.drop k = e :: es.drop (k + 1) := by
          rw [List.drop_eq_getElem_cons hkl]
          congr 1
          rw [List.getElem?_eq_getElem hkl] at he; exact Option.some.inj he
        obtain ⟨Y, hY⟩ : ∃ Y : ByteArray, (⟨e.id.toArray⟩ : ByteArray) = Y := ⟨_, rfl⟩
        have hYA := str_eq hY HA.out (b := decide (e.id = a)) rfl
        rw [hY] at d4
        have HE := Lib.hid he
        have HDR := Lib.hid hdr
        clear he hdr hY
        by_cases h1 : e.par = l
        · have h1b : (e.par == l) = true := by simp [h1]
          by_cases h2 : e.id = a
          · rw [decide_eq_true h2] at hYA
            by_cases h3 : 1 < n
            · have h3z : (1 : Int) < n := by omega
              have hcn : ¬ c = 1 := by have := HNC.out; omega
              go_wp2
              have hstep : glF (es.drop k) k l n a = glF (es.drop (k + 1)) (k + 1) k (n - 1) a := by
                rw [HDR.out]
                show (if _ then _ else _) = _
                rw [if_pos ⟨h1, h2⟩, if_pos h3]
                congr 1; omega
              exact ⟨⟨k + 1, o + 1, n - 1, c - 1, k, by first | trivial | rfl, by simp, by omega, rfl, by omega, by have := HNC.out; omega, by omega, rfl, by rw [HG2.out, hstep], trivial⟩, by simp [intOf]; omega⟩
            · have h3z : ¬ (1 : Int) < n := by omega
              go_wp2
              go_ret
              refine ⟨?_, HB3.out⟩
              have hstep : glF (es.drop k) k l n a = e.loc := by
                rw [HDR.out]
                show (if _ then _ else _) = _
                rw [if_pos ⟨h1, h2⟩, if_neg h3]
              rw [HG2.out, hstep]; rfl
          · rw [decide_eq_false h2] at hYA
            go_wp2
            have hstep : glF (es.drop k) k l n a = glF (es.drop (k + 1)) (k + 1) l n a := by
              rw [HDR.out]
              show (if _ then _ else _) = _
              rw [if_neg (fun h => h2 h.2)]
            exact ⟨⟨k + 1, o, n, c, l, by first | trivial | rfl, by simp, by omega, rfl, hn1, HNC.out, hnb, rfl, by rw [HG2.out, hstep], trivial⟩, by simp [intOf]; omega⟩
        · have h1b : (e.par == l) = false := by simp [h1]
          go_wp2
          have hstep : glF (es.drop k) k l n a = glF (es.drop (k + 1)) (k + 1) l n a := by
            rw [HDR.out]
            show (if _ then _ else _) = _
            rw [if_neg (fun h => h1 h.1)]
          exact ⟨⟨k + 1, o, n, c, l, by first | trivial | rfl, by simp, by omega, rfl, hn1, HNC.out, hnb, rfl, by rw [HG2.out, hstep], trivial⟩, by simp [intOf]; omega⟩
      · go_wp2
        go_ret
        refine ⟨?_, HB3.out⟩
        have hstep : glF (es.drop k) k l n a = 0 := by
          rw [List.drop_of_length_le (by omega)]; rfl
        rw [HG2.out, hstep]; rfl

end Go.Proofs.YtfppgplboomdbaaGreatDoor
